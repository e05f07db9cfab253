/-
  The walks of errors.New, Source.wrap and errors.Unwrap.
-/
import Derived.Test.Qxb6612635aFmtFacts
import Derived.WalkKit
import Derived.Below
import Derived.LaidEql
import Derived.Deep.QuietTactic
import Derived.BigQuiet
namespace Go.Proofs.Qxb6612635aFmt.Wrap
open Go.RowKit Go.Extern.Stop Go.Stop Go.Extern
open Go.Proofs.Qxb6612635aFmt.Facts
attribute [local go_sem] call13 guardOk fmt0 fmt0r fmt1 fmt1r op9_115w ptr34 elem34 isError34 ptr42 elem42 isError42 noUnwrap34 hasUnwrap42

theorem hide {p : Prop} (h : p) : Hid p := h

set_option maxHeartbeats 400000 in
theorem new_any (s : ByteArray) (w : World) :
    Calls Tryf.prog 9 #[.string s] w fun e w' => e = .returned (.iface 34 (.pointer (some ⟨w.heap.size, 0, none⟩))) ∧ w' = w.alloc (.cells #[.string s] 36) := by
  go_enter Tryf.func9, Tryf.ntmps9
  go_wp2
  go_ret
  exact ⟨rfl, rfl⟩

/-- wrap at another kind: the given error itself. -/
theorem wrap_no (k : Int) (f : ByteArray) (T : TypeId) (a : Addr) (w : World) (hk : (k == 2) = false) :
    Calls Tryf.prog 10 #[.agg #[.int .i64 k, .string f], .iface T (.pointer (some a))] w fun e w' => e = .returned (.iface T (.pointer (some a))) ∧ Below w.heap.size w w' := by
  go_enter Tryf.func10, Tryf.ntmps10
  go_wp2
  go_ret
  exact ⟨rfl, (Below.refl _ _).alloc (Nat.le_refl _) _⟩

/-- What wrapping leaves: a new *fmt.wrapError that holds the given error. -/
def Wrapped (w : World) (x : Value) (e : Ending) (w' : World) : Prop :=
  ∃ (g : Nat) (t : ByteArray), e = .returned (.iface 42 (.pointer (some ⟨g, 0, none⟩))) ∧ g < w'.heap.size ∧ Below w.heap.size w w' ∧ w'.cell? ⟨g, 0, none⟩ = some (.string t) ∧ w'.cell? ⟨g, 1, none⟩ = some x

set_option maxHeartbeats 400000 in
theorem wrap_yes34 (F : Interp) (f : ByteArray) (b : Nat) (s : ByteArray) (w : World) (hF : F.answers w.tape) (hb : b < w.heap.size) (hs : w.cell? ⟨b, 0, none⟩ = some (.string s)) :
    Calls Tryf.prog 10 #[.agg #[.int .i64 2, .string f], .iface 34 (.pointer (some ⟨b, 0, none⟩))] w fun e w' => Wrapped w (.iface 34 (.pointer (some ⟨b, 0, none⟩))) e w' := by
  have hF' := hF
  unfold Interp.answers at hF'
  have hop := fun (o1 o2 : Obj) => opPlain34 "fmt.errorf" ⟨b, 0, none⟩ s ((w.alloc o1).alloc o2) ((((Below.refl w.heap.size w).alloc (Nat.le_refl _) o1).alloc (by simp) o2).cell (p := ⟨b, 0, none⟩) hb |>.trans hs)
  go_enter Tryf.func10, Tryf.ntmps10
  go_wp2
  go_ret
  refine ⟨w.heap.size + 1 + 1, FmtStop.textOf (F "fmt.errorf" [[37, 115, 58, 32, 37, 119], shape9, FmtStop.pack [65, 77, 66, 73, 84, 95, 67, 79, 78, 70, 73, 71], plain34, s.data.toList] 0), rfl, ?_, ?_, ?_, ?_⟩
  · go_simp
  · exact ((((Below.refl _ _).alloc (Nat.le_refl _) _).alloc (by simp) _).alloc (by simp; omega) _).drew
  · go_simp
  · go_simp

set_option maxHeartbeats 400000 in
theorem wrap_yes42 (F : Interp) (f : ByteArray) (b : Nat) (s : ByteArray) (w : World) (hF : F.answers w.tape) (hb : b < w.heap.size) (hs : w.cell? ⟨b, 0, none⟩ = some (.string s)) :
    Calls Tryf.prog 10 #[.agg #[.int .i64 2, .string f], .iface 42 (.pointer (some ⟨b, 0, none⟩))] w fun e w' => Wrapped w (.iface 42 (.pointer (some ⟨b, 0, none⟩))) e w' := by
  have hF' := hF
  unfold Interp.answers at hF'
  have hop := fun (o1 o2 : Obj) => opPlain42 "fmt.errorf" ⟨b, 0, none⟩ s ((w.alloc o1).alloc o2) ((((Below.refl w.heap.size w).alloc (Nat.le_refl _) o1).alloc (by simp) o2).cell (p := ⟨b, 0, none⟩) hb |>.trans hs)
  go_enter Tryf.func10, Tryf.ntmps10
  go_wp2
  go_ret
  refine ⟨w.heap.size + 1 + 1, FmtStop.textOf (F "fmt.errorf" [[37, 115, 58, 32, 37, 119], shape9, FmtStop.pack [65, 77, 66, 73, 84, 95, 67, 79, 78, 70, 73, 71], plain42, s.data.toList] 0), rfl, ?_, ?_, ?_, ?_⟩
  · go_simp
  · exact ((((Below.refl _ _).alloc (Nat.le_refl _) _).alloc (by simp) _).alloc (by simp; omega) _).drew
  · go_simp
  · go_simp

theorem assert_nil (xT : TypeId) (w : World) : (Instr.typeAssert .nilIface xT 38 true).run Tryf.prog w = .ok (.tuple #[.nilIface, .bool false]) w := by kernel_rfl

theorem unwrap_nil (w : World) : Calls Tryf.prog 11 #[.nilIface] w fun e w' => e = .returned .nilIface ∧ w' = w := by
  have ha := assert_nil
  go_enter Tryf.func11, Tryf.ntmps11
  go_wp2
  go_ret
  exact ⟨rfl, rfl⟩

theorem unwrap_34 (v : Value) (w : World) : Calls Tryf.prog 11 #[.iface 34 v] w fun e w' => e = .returned .nilIface ∧ w' = w := by
  go_enter Tryf.func11, Tryf.ntmps11
  go_wp2
  go_ret
  exact ⟨rfl, rfl⟩

theorem method_unwrap (a : Addr) (w : World) : (method 162 42 (.pointer (some a)) "Unwrap").run Tryf.prog w = .ok (33, .pointer (some a)) w := by kernel_rfl

theorem unwrap_42 (g T : Nat) (a : Addr) (w : World) (hc : w.cell? ⟨g, 1, none⟩ = some (.iface T (.pointer (some a)))) : Calls Tryf.prog 11 #[.iface 42 (.pointer (some ⟨g, 0, none⟩))] w fun e w' => e = .returned (.iface T (.pointer (some a))) ∧ w' = w := by
  have hm := method_unwrap
  go_enter Tryf.func11, Tryf.ntmps11
  go_wp2
  go_ret
  exact ⟨rfl, rfl⟩

end Go.Proofs.Qxb6612635aFmt.Wrap
