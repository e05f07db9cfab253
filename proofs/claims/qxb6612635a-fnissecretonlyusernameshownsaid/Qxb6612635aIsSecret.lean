/-
  A proof of Rows.FnIsSecretOnlyUsernameShownSaid. The shell was written by the kit's tool; the walk and the plain law are the prover's.
-/
import Derived.Test.Qxb6612635aRows
import Derived.WalkKit
import Derived.ProofKit
import Derived.OpenShut
import Derived.ShutString
namespace Go.Proofs.Qxb6612635a.fnIsSecretOnlyUsernameShown
open Go.ChangeShapes Go.WideShapes Go.ChangeAt Go.RowKit
open Go.ChangeMaps (open_string shut_string)
set_option linter.unusedVariables false      -- a walk need not use every 'w<i>' (that an integer argument fits its kind)

theorem own : ownKnob Try.prog.godebug = none := by kernel_rfl

theorem hide {p : Prop} (h : p) : Hid p := h

/-- The name of the one property that is shown, byte by byte. -/
def user : List UInt8 := [117, 115, 101, 114, 110, 97, 109, 101]

/-- IsSecret: is the name another than 'username'? -/
def secret (a : ByteArray) : Bool := !(a.toList == user)

/-- The byte guard. -/
def fits (a b : ByteArray) : Bool := decide (a.size + b.size ≤ 1048576)

theorem ret_bool {a b : Bool} (h : a = b) : Ending.returned (.bool a) = .returned (.bool b) := by rw [h]

set_option maxHeartbeats 400000 in
theorem isSecret_any (a : ByteArray) (w : World) :
    Calls Try.prog 6 #[.string a] w fun e w' => e = .returned (.bool (secret a)) ∧ w' = w := by
  go_enter Try.func6, Try.ntmps6
  go_wp2
  go_ret
  exact ⟨ret_bool rfl, rfl⟩

set_option maxHeartbeats 400000 in
theorem zz_any (a b : ByteArray) (w : World) (wa : a.size ≤ maxLen) (wb : b.size ≤ maxLen) :
    Calls Try.prog 5 #[.string a, .string b] w fun e w' => e = .returned (.bool (fits a b)) ∧ w' = w := by
  unfold maxLen at wa wb
  have ht : a.size + b.size ≤ 1048576 → fits a b = true := fun h => by simp [fits, h]
  have hf : ¬ a.size + b.size ≤ 1048576 → fits a b = false := fun h => by simp [fits, h]
  have HT := hide ht
  have HF := hide hf
  clear ht hf
  go_enter Try.func5, Try.ntmps5
  go_wp2
  all_goals
    go_ret
    first
      | (rw [HT.out (by omega)]; exact ⟨rfl, rfl⟩)
      | (rw [HF.out (by omega)]; exact ⟨rfl, rfl⟩)

/-- The plain law: username is no secret; of two different names one is a secret. -/
theorem law (a b : ByteArray) : (secret a || (secret b || a.toList == b.toList)) = true := by
  unfold secret
  by_cases h : a.toList = user
  · by_cases h' : b.toList = user
    · rw [h, h']; simp
    · simp [h']
  · simp [h]

theorem user_shown : secret ⟨#[117, 115, 101, 114, 110, 97, 109, 101]⟩ = false := by decide +kernel

theorem walk (a0 : ByteArray) (a1 : ByteArray) (w0 : a0.size ≤ maxLen) (w1 : a1.size ≤ maxLen) (w : World) :
    Calls Try.prog 3 #[.string a0, .string a1] w fun e w' => e = .returned (.bool true) ∧ Grown w w' := by
  have HL := hide (law a0 a1)
  have w0' : a0.size ≤ maxLen := w0
  have w1' : a1.size ≤ maxLen := w1
  unfold maxLen at w0' w1'
  go_enter Try.func3, Try.ntmps3
  go_wp2_with fail
  refine (zz_any a0 a1 _ w0 w1).mono ?_
  rintro e w' ⟨rfl, rfl⟩
  generalize fits a0 a1 = f
  cases f
  · go_wp2
    go_ret
    exact ⟨rfl, Grown.refl _⟩
  · have hu := user_shown
    go_wp2_with (go_at_call 6; refine (isSecret_any _ _).mono ?_; rintro e w' ⟨rfl, rfl⟩)
    all_goals
      go_ret
      first
        | exact ⟨rfl, Grown.refl _⟩
        | (have hl := HL.out
           have h1 : secret a0 = false := by simpa using ‹¬ secret a0 = true›
           have h2 : secret a1 = false := by simpa using ‹¬ secret a1 = true›
           rw [h1, h2] at hl
           exact ⟨ret_bool (by simpa using hl), Grown.refl _⟩)

/-! ### THE ROW's STEP: WRITTEN OUT: LEAVE IT -/
set_option maxRecDepth 100000 in
theorem lifted (os : Os) (started : os.Started) (H : Type) (enc : TypeId × Value → H) :
    ReturnsInHanded {} Try.checked os 3 .any (Rows.fnIsSecretOnlyUsernameShownSpec.pre6 enc Try.prog Try.f3 Rows.fnIsSecretOnlyUsernameShownRow.domain false) (Rows.fnIsSecretOnlyUsernameShownSpec.post enc Try.prog Try.f3 false true false false) := by
  refine returnsInHanded_of_change (C := Try.checked) own started (by kernel_rfl) Try.func3
    (ChangeSpec.witness6 (enc := enc) (C := Try.checked) false ⟨#[], #[.string ByteArray.empty, .string ByteArray.empty], []⟩ 8 (by kernel_rfl) (by kernel_rfl) (by kernel_rfl) (by kernel_rfl)) ?_
  intro W base args ds gs before hval0 hW hcnd _
  have hval : ∀ (j : Nat) t v, Try.f3.params[j]? = some t → args[j]? = some v → Value.okWide Try.prog W .any base t v := hval0
  have hW' := hW
  obtain ⟨p, q, hA0, hV, rfl, hfz, hnd⟩ := hW
  have hA : DataW.TrodAll enc Try.prog W 0 (fun _ => true) true Try.f3.params.toList args.toList ds p := hA0
  rw [Try.params3] at hA hval
  obtain ⟨v0, vs0, d0, ds0, p0, q0, hargs, rfl, rfl, h0, r0⟩ := trodAll_cons hA
  obtain ⟨v1, vs1, d1, ds1, p1, q1, rfl, rfl, rfl, h1, r1⟩ := trodAll_cons r0
  obtain ⟨rfl, rfl, rfl⟩ := trodAll_nil r1
  obtain rfl : args = #[v0, v1] := by cases args; simp_all
  obtain ⟨rfl, rfl⟩ := trodVars_none hV
  obtain ⟨a0, rfl, rfl, rfl, w0⟩ := open_string Try.underlying9 (hval 0 9 v0 rfl rfl) h0
  obtain ⟨a1, rfl, rfl, rfl, w1⟩ := open_string Try.underlying9 (hval 1 9 v1 rfl rfl) h1
  clear hA0 hval0
  simp only [List.append_nil] at hW'
  refine (walk a0 a1 w0 w1 W).mono fun e W' ⟨he, hg⟩ => ?_
  subst he
  exact ⟨_, rfl, post_of_same (pa := []) (pv := []) hW' (fun _ _ _ => (trodAll_cons_mk (shut_bool Try.underlying4 _) trodAll_mk0)) (fun sp _ => (trodAll_cons_mk (shut_string Try.underlying9 w0) (trodAll_cons_mk (shut_string Try.underlying9 w1) trodAll_mk0))) (fun _ _ => rfl) rfl
    (hg.frame _) hg.2.1 (ok_one (by kernel_rfl) rfl (okWide_bool_mk Try.underlying4 _))⟩

theorem over : Rows.fnIsSecretOnlyUsernameShownRow.holds Try.pinned (OpenSpec.ofChange Rows.fnIsSecretOnlyUsernameShownSpec) :=
  OpenClaim.holds_of_wide 3 Try.f3 rfl rfl rfl rfl rfl rfl rfl ⟨rfl, rfl, rfl, rfl, rfl⟩ rfl rfl rfl rfl rfl (by kernel_rfl) Try.func3 (by kernel_rfl)
    (of_decide_eq_true (by kernel_rfl)) (by unfold Func.isWrapper; first | (rw [if_pos (by decide +kernel)]; kernel_rfl) | (rw [if_neg (by decide +kernel)]; exact ⟨rfl, rfl⟩))
    (fun os started H enc _ => lifted os started H enc)

end Go.Proofs.Qxb6612635a.fnIsSecretOnlyUsernameShown

namespace Go.Proofs.Qxb6612635a
/-- THE STATEMENT. -/
theorem fnIsSecretOnlyUsernameShown_proved : Rows.FnIsSecretOnlyUsernameShownSaid :=
  fnIsSecretOnlyUsernameShown.over
end Go.Proofs.Qxb6612635a
