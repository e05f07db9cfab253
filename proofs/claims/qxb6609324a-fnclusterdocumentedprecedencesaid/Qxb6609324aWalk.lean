/-
  The walks of zzBytes, claimTooBig, buildClaim, Cluster and the law.
-/
import Derived.Test.Qxb6609324aRows
import Derived.Test.Qxb6609324aKit
namespace Go.Proofs.Qxb6609324a.Walk
open Go.RowKit
open Go.Proofs.Qxb6609324a.Kit

/-- The call returned a bool. -/
def IsBool (e : Ending) : Prop := ∃ b, e = .returned (.bool b)

set_option maxHeartbeats 800000 in
theorem bytes_any (a0 a1 a2 a3 a4 a5 a6 a7 a8 a9 a10 : ByteArray) (b : Bool) (w : World) :
    Calls Try.prog 4 #[.string a0, .string a1, .string a2, .string a3, .string a4, .string a5, .string a6, .string a7, .string a8, .string a9, .string a10, .bool b] w fun e w' => IsBool e ∧ w' = w := by
  go_enter Try.func4, Try.ntmps4
  go_wp2
  all_goals
    go_ret
    exact ⟨⟨_, rfl⟩, rfl⟩

set_option maxHeartbeats 800000 in
theorem tooBig_any (a0 a1 a2 a3 a4 a5 a6 a7 a8 a9 a10 : ByteArray) (w : World) :
    Calls Try.prog 5 #[.string a0, .string a1, .string a2, .string a3, .string a4, .string a5, .string a6, .string a7, .string a8, .string a9, .string a10] w fun e w' => IsBool e ∧ w' = w := by
  go_enter Try.func5, Try.ntmps5
  go_wp2
  all_goals
    go_ret
    exact ⟨⟨_, rfl⟩, rfl⟩

set_option maxHeartbeats 800000 in
theorem build_any (a0 a1 a2 a3 a4 a5 a6 a7 a8 a9 a10 : ByteArray) (b : Bool) (w : World) :
    Calls Try.prog 6 #[.string a0, .string a1, .string a2, .string a3, .string a4, .string a5, .string a6, .string a7, .string a8, .string a9, .string a10, .bool b] w
      fun e w' => e = .returned (.agg #[.string a0, .string a1, .string a2, .string a3, .nilIface, .string a4, .string a5, .string a6, .string a7, .string a8, .string a9, .string a10, .bool b]) ∧ Below w.heap.size w w' := by
  go_enter Try.func6, Try.ntmps6
  go_wp2
  refine bodyPost_ret (v := .agg #[.string a0, .string a1, .string a2, .string a3, .nilIface, .string a4, .string a5, .string a6, .string a7, .string a8, .string a9, .string a10, .bool b]) (by simp [results, Try.results6, go_sem]) rfl ⟨rfl, ?_⟩
  exact ((Below.refl _ _).alloc (Nat.le_refl _) _).alloc (by simp) _

theorem cluster_spec (a0 a1 a2 a3 a4 a5 a6 a7 a8 a9 a10 : ByteArray) (b : Bool) (w : World) (h : a7.toList.isEmpty = false) :
    Calls Try.prog 7 #[.agg #[.string a0, .string a1, .string a2, .string a3, .nilIface, .string a4, .string a5, .string a6, .string a7, .string a8, .string a9, .string a10, .bool b]] w
      fun e w' => e = .returned (.string a7) ∧ Below w.heap.size w w' := by
  go_enter Try.func7, Try.ntmps7
  go_wp2
  go_ret
  exact ⟨rfl, (Below.refl _ _).alloc (Nat.le_refl _) _⟩

theorem cluster_label (a0 a1 a2 a3 a4 a5 a6 a7 a8 a9 a10 : ByteArray) (b : Bool) (w : World) (h : a7.toList.isEmpty = true) :
    Calls Try.prog 7 #[.agg #[.string a0, .string a1, .string a2, .string a3, .nilIface, .string a4, .string a5, .string a6, .string a7, .string a8, .string a9, .string a10, .bool b]] w
      fun e w' => e = .returned (.string a6) ∧ Below w.heap.size w w' := by
  go_enter Try.func7, Try.ntmps7
  go_wp2
  go_ret
  exact ⟨rfl, (Below.refl _ _).alloc (Nat.le_refl _) _⟩

theorem after {a b c : World} (h : Below a.heap.size a b) (k : Below b.heap.size b c) : Below a.heap.size a c := h.trans (k.mono h.size)
theorem newBelow (w : World) (o : Obj) : Below w.heap.size w (w.alloc o) := (Below.refl _ _).alloc (Nat.le_refl _) _

set_option maxHeartbeats 1000000 in
theorem law_spec (a0 a1 a2 a3 a4 a5 a6 a7 a8 a9 a10 : ByteArray) (b : Bool) (w : World) (h : a7.toList.isEmpty = false) :
    Calls Try.prog 3 #[.string a0, .string a1, .string a2, .string a3, .string a4, .string a5, .string a6, .string a7, .string a8, .string a9, .string a10, .bool b] w fun e w' => e = .returned (.bool true) ∧ Below w.heap.size w w' := by
  go_enter Try.func3, Try.ntmps3
  go_wp2_with fail
  refine (bytes_any _ _ _ _ _ _ _ _ _ _ _ _ _).mono ?_
  rintro e w' ⟨⟨big, rfl⟩, rfl⟩
  cases big
  · go_wp2
    go_ret
    exact ⟨rfl, Below.refl _ _⟩
  go_wp2_with fail
  refine (tooBig_any _ _ _ _ _ _ _ _ _ _ _ _).mono ?_
  rintro e w1 ⟨⟨big, rfl⟩, rfl⟩
  cases big
  case true =>
    go_wp2
    go_ret
    exact ⟨rfl, Below.refl _ _⟩
  go_wp2_with fail
  refine (build_any _ _ _ _ _ _ _ _ _ _ _ _ _).mono ?_
  rintro e w2 ⟨rfl, hb2⟩
  have HB2 := hide hb2
  clear hb2
  go_wp2_with fail
  refine (cluster_spec _ _ _ _ _ _ _ _ _ _ _ _ _ h).mono ?_
  rintro e w3 ⟨rfl, hb3⟩
  have HB3 := hide hb3
  clear hb3
  go_wp2_with fail
  refine (build_any _ _ _ _ _ _ _ _ _ _ _ _ _).mono ?_
  rintro e w4 ⟨rfl, hb4⟩
  have HB4 := hide hb4
  clear hb4
  go_wp2_with fail
  refine (cluster_spec _ _ _ _ _ _ _ _ _ _ _ _ _ h).mono ?_
  rintro e w5 ⟨rfl, hb5⟩
  have HB5 := hide hb5
  clear hb5
  go_wp2
  go_ret
  exact ⟨rfl, after (after (after (after (after HB2.out (newBelow _ _)) HB3.out) HB4.out) (newBelow _ _)) HB5.out⟩

set_option maxHeartbeats 1000000 in
theorem law_none (a0 a1 a2 a3 a4 a5 a6 a7 a8 a9 a10 : ByteArray) (b : Bool) (w : World) (h : a7.toList.isEmpty = true) (h6 : a6.toList.isEmpty = true) (he : (a6.toList == a7.toList) = true) :
    Calls Try.prog 3 #[.string a0, .string a1, .string a2, .string a3, .string a4, .string a5, .string a6, .string a7, .string a8, .string a9, .string a10, .bool b] w fun e w' => e = .returned (.bool true) ∧ Below w.heap.size w w' := by
  go_enter Try.func3, Try.ntmps3
  go_wp2_with fail
  refine (bytes_any _ _ _ _ _ _ _ _ _ _ _ _ _).mono ?_
  rintro e w' ⟨⟨big, rfl⟩, rfl⟩
  cases big
  · go_wp2
    go_ret
    exact ⟨rfl, Below.refl _ _⟩
  go_wp2_with fail
  refine (tooBig_any _ _ _ _ _ _ _ _ _ _ _ _).mono ?_
  rintro e w1 ⟨⟨big, rfl⟩, rfl⟩
  cases big
  case true =>
    go_wp2
    go_ret
    exact ⟨rfl, Below.refl _ _⟩
  go_wp2_with fail
  refine (build_any _ _ _ _ _ _ _ _ _ _ _ _ _).mono ?_
  rintro e w2 ⟨rfl, hb2⟩
  have HB2 := hide hb2
  clear hb2
  go_wp2_with fail
  refine (cluster_label _ _ _ _ _ _ _ _ _ _ _ _ _ h).mono ?_
  rintro e w3 ⟨rfl, hb3⟩
  have HB3 := hide hb3
  clear hb3
  go_wp2_with fail
  refine (build_any _ _ _ _ _ _ _ _ _ _ _ _ _).mono ?_
  rintro e w4 ⟨rfl, hb4⟩
  have HB4 := hide hb4
  clear hb4
  go_wp2_with fail
  refine (cluster_label _ _ _ _ _ _ _ _ _ _ _ _ _ h).mono ?_
  rintro e w5 ⟨rfl, hb5⟩
  have HB5 := hide hb5
  clear hb5
  go_wp2
  go_ret
  exact ⟨rfl, after (after (after (after (after HB2.out (newBelow _ _)) HB3.out) HB4.out) (newBelow _ _)) HB5.out⟩

set_option maxHeartbeats 1000000 in
theorem law_label (a0 a1 a2 a3 a4 a5 a6 a7 a8 a9 a10 : ByteArray) (b : Bool) (w : World) (h : a7.toList.isEmpty = true) (h6 : a6.toList.isEmpty = false) (he : (a6.toList == a7.toList) = false) :
    Calls Try.prog 3 #[.string a0, .string a1, .string a2, .string a3, .string a4, .string a5, .string a6, .string a7, .string a8, .string a9, .string a10, .bool b] w fun e w' => e = .returned (.bool true) ∧ Below w.heap.size w w' := by
  go_enter Try.func3, Try.ntmps3
  go_wp2_with fail
  refine (bytes_any _ _ _ _ _ _ _ _ _ _ _ _ _).mono ?_
  rintro e w' ⟨⟨big, rfl⟩, rfl⟩
  cases big
  · go_wp2
    go_ret
    exact ⟨rfl, Below.refl _ _⟩
  go_wp2_with fail
  refine (tooBig_any _ _ _ _ _ _ _ _ _ _ _ _).mono ?_
  rintro e w1 ⟨⟨big, rfl⟩, rfl⟩
  cases big
  case true =>
    go_wp2
    go_ret
    exact ⟨rfl, Below.refl _ _⟩
  go_wp2_with fail
  refine (build_any _ _ _ _ _ _ _ _ _ _ _ _ _).mono ?_
  rintro e w2 ⟨rfl, hb2⟩
  have HB2 := hide hb2
  clear hb2
  go_wp2_with fail
  refine (cluster_label _ _ _ _ _ _ _ _ _ _ _ _ _ h).mono ?_
  rintro e w3 ⟨rfl, hb3⟩
  have HB3 := hide hb3
  clear hb3
  go_wp2_with fail
  refine (build_any _ _ _ _ _ _ _ _ _ _ _ _ _).mono ?_
  rintro e w4 ⟨rfl, hb4⟩
  have HB4 := hide hb4
  clear hb4
  go_wp2_with fail
  refine (cluster_label _ _ _ _ _ _ _ _ _ _ _ _ _ h).mono ?_
  rintro e w5 ⟨rfl, hb5⟩
  have HB5 := hide hb5
  clear hb5
  go_wp2
  go_ret
  exact ⟨rfl, after (after (after (after (after HB2.out (newBelow _ _)) HB3.out) HB4.out) (newBelow _ _)) HB5.out⟩

theorem walk (a0 a1 a2 a3 a4 a5 a6 a7 a8 a9 a10 : ByteArray) (b : Bool) (w : World) :
    Calls Try.prog 3 #[.string a0, .string a1, .string a2, .string a3, .string a4, .string a5, .string a6, .string a7, .string a8, .string a9, .string a10, .bool b] w fun e w' => e = .returned (.bool true) ∧ Below w.heap.size w w' := by
  cases h : a7.toList.isEmpty
  · exact law_spec a0 a1 a2 a3 a4 a5 a6 a7 a8 a9 a10 b w h
  · have h7 : a7.toList = [] := by simpa using h
    cases h6 : a6.toList.isEmpty
    · exact law_label a0 a1 a2 a3 a4 a5 a6 a7 a8 a9 a10 b w h h6 (by rw [h7]; simpa using h6)
    · exact law_none a0 a1 a2 a3 a4 a5 a6 a7 a8 a9 a10 b w h h6 (by rw [h7]; simpa using h6)

end Go.Proofs.Qxb6609324a.Walk
