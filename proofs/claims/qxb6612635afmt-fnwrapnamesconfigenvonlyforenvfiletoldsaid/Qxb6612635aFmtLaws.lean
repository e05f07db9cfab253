/-
  The walks of the two laws.
-/
import Derived.Test.Qxb6612635aFmtZz
namespace Go.Proofs.Qxb6612635aFmt.Laws
open Go.RowKit Go.Extern.Stop Go.Stop Go.Extern
open Go.Proofs.Qxb6612635aFmt.Wrap Go.Proofs.Qxb6612635aFmt.Zz

/-- The call returned a bool. -/
def IsBool (e : Ending) : Prop := ∃ b, e = .returned (.bool b)

set_option maxHeartbeats 400000 in
theorem bytes3 (k : Int) (f1 f2 s : ByteArray) (w : World) (h1 : f1.size ≤ maxLen) (h2 : f2.size ≤ maxLen) (h3 : s.size ≤ maxLen) :
    Calls Tryf.prog 5 #[.int .i64 k, .string f1, .string f2, .string s] w fun e w' => IsBool e ∧ w' = w := by
  unfold maxLen at h1 h2 h3
  go_enter Tryf.func5, Tryf.ntmps5
  go_wp2
  all_goals
    go_ret
    exact ⟨⟨_, rfl⟩, rfl⟩

set_option maxHeartbeats 400000 in
theorem bytes4 (k1 k2 : Int) (f1 f2 s : ByteArray) (w : World) (h1 : f1.size ≤ maxLen) (h2 : f2.size ≤ maxLen) (h3 : s.size ≤ maxLen) :
    Calls Tryf.prog 7 #[.int .i64 k1, .string f1, .int .i64 k2, .string f2, .string s] w fun e w' => IsBool e ∧ w' = w := by
  unfold maxLen at h1 h2 h3
  go_enter Tryf.func7, Tryf.ntmps7
  go_wp2
  all_goals
    go_ret
    exact ⟨⟨_, rfl⟩, rfl⟩

set_option maxHeartbeats 400000 in
theorem walk3 (F : Interp) (k : Int) (f1 f2 s : ByteArray) (w : World) (hF : F.answers w.tape) (h1 : f1.size ≤ maxLen) (h2 : f2.size ≤ maxLen) (h3 : s.size ≤ maxLen) :
    Calls Tryf.prog 3 #[.int .i64 k, .string f1, .string f2, .string s] w fun e w' => e = .returned (.bool true) ∧ Below w.heap.size w w' := by
  have HF := hide hF
  have H1 := hide h1
  have H2 := hide h2
  have H3 := hide h3
  clear hF
  unfold maxLen at h1 h2 h3
  go_enter Tryf.func3, Tryf.ntmps3
  go_wp2_with fail
  refine (bytes3 _ _ _ _ _ H1.out H2.out H3.out).mono ?_
  rintro e w' ⟨⟨big, rfl⟩, rfl⟩
  cases big
  · go_wp2
    go_ret
    exact ⟨rfl, Below.refl _ _⟩
  by_cases c1 : 262144 < (f1.size : Int)
  · go_wp2
    go_ret
    exact ⟨rfl, Below.refl _ _⟩
  by_cases c2 : 262144 < (f2.size : Int)
  · go_wp2
    go_ret
    exact ⟨rfl, Below.refl _ _⟩
  by_cases c3 : 262144 < (s.size : Int)
  · go_wp2
    go_ret
    exact ⟨rfl, Below.refl _ _⟩
  by_cases hk : k = 2
  · subst hk
    go_wp2_with fail
    refine (zz_yes F _ _ _ (by exact HF.out)).mono ?_
    rintro e w1 ⟨rfl, hb1⟩
    have HB1 := hide hb1
    clear hb1
    go_wp2_with fail
    refine (zz_yes F _ _ _ (by exact answers HF.out HB1.out)).mono ?_
    rintro e w2 ⟨rfl, hb2⟩
    have HB2 := hide hb2
    clear hb2
    go_wp2
    go_ret
    exact ⟨rfl, after HB1.out HB2.out⟩
  · have hk' : (k == 2) = false := by simpa using hk
    go_wp2_with fail
    refine (zz_no _ _ _ _ hk').mono ?_
    rintro e w1 ⟨rfl, hb1⟩
    have HB1 := hide hb1
    clear hb1
    go_wp2_with fail
    refine (zz_no _ _ _ _ hk').mono ?_
    rintro e w2 ⟨rfl, hb2⟩
    have HB2 := hide hb2
    clear hb2
    go_wp2
    go_ret
    exact ⟨rfl, after HB1.out HB2.out⟩

set_option maxHeartbeats 400000 in
theorem walk4 (F : Interp) (k1 k2 : Int) (f1 f2 s : ByteArray) (w : World) (hF : F.answers w.tape) (h1 : f1.size ≤ maxLen) (h2 : f2.size ≤ maxLen) (h3 : s.size ≤ maxLen) :
    Calls Tryf.prog 4 #[.int .i64 k1, .string f1, .int .i64 k2, .string f2, .string s] w fun e w' => e = .returned (.bool true) ∧ Below w.heap.size w w' := by
  have HF := hide hF
  have H1 := hide h1
  have H2 := hide h2
  have H3 := hide h3
  clear hF
  unfold maxLen at h1 h2 h3
  go_enter Tryf.func4, Tryf.ntmps4
  go_wp2_with fail
  refine (bytes4 _ _ _ _ _ _ H1.out H2.out H3.out).mono ?_
  rintro e w' ⟨⟨big, rfl⟩, rfl⟩
  cases big
  · go_wp2
    go_ret
    exact ⟨rfl, Below.refl _ _⟩
  by_cases c1 : 262144 < (f1.size : Int)
  · go_wp2
    go_ret
    exact ⟨rfl, Below.refl _ _⟩
  by_cases c2 : 262144 < (f2.size : Int)
  · go_wp2
    go_ret
    exact ⟨rfl, Below.refl _ _⟩
  by_cases c3 : 262144 < (s.size : Int)
  · go_wp2
    go_ret
    exact ⟨rfl, Below.refl _ _⟩
  by_cases hk1 : k1 = 2
  · subst hk1
    by_cases hk2 : k2 = 2
    · subst hk2
      go_wp2_with fail
      refine (twice_yy F _ _ _ _ (by exact HF.out)).mono ?_
      rintro e w1 ⟨rfl, hb1⟩
      have HB1 := hide hb1
      clear hb1
      go_wp2
      go_ret
      exact ⟨rfl, HB1.out⟩
    · have hk2' : (k2 == 2) = false := by simpa using hk2
      go_wp2_with fail
      refine (twice_yn F _ _ _ _ _ (by exact HF.out) hk2').mono ?_
      rintro e w1 ⟨rfl, hb1⟩
      have HB1 := hide hb1
      clear hb1
      go_wp2
      go_ret
      exact ⟨rfl, HB1.out⟩
  · have hk1' : (k1 == 2) = false := by simpa using hk1
    by_cases hk2 : k2 = 2
    · subst hk2
      go_wp2_with fail
      refine (twice_ny F _ _ _ _ _ (by exact HF.out) hk1').mono ?_
      rintro e w1 ⟨rfl, hb1⟩
      have HB1 := hide hb1
      clear hb1
      go_wp2
      go_ret
      exact ⟨rfl, HB1.out⟩
    · have hk2' : (k2 == 2) = false := by simpa using hk2
      go_wp2_with fail
      refine (twice_nn _ _ _ _ _ _ hk1' hk2').mono ?_
      rintro e w1 ⟨rfl, hb1⟩
      have HB1 := hide hb1
      clear hb1
      go_wp2
      go_ret
      exact ⟨rfl, HB1.out⟩

end Go.Proofs.Qxb6612635aFmt.Laws
