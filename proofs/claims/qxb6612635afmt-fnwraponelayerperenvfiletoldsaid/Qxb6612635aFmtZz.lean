/-
  The walks of ZZwrap and ZZwrapTwice.
-/
import Derived.Test.Qxb6612635aFmtWrap
import Derived.Deep.RegionWith
namespace Go.Proofs.Qxb6612635aFmt.Zz
open Go.RowKit Go.Extern.Stop Go.Stop Go.Extern
open Go.Proofs.Qxb6612635aFmt.Facts Go.Proofs.Qxb6612635aFmt.Wrap

theorem same34 (a : Addr) (w : World) : (binOp .eql 28 (.iface 34 (.pointer (some a))) (.iface 34 (.pointer (some a)))).run Tryf.prog w = .ok (.bool true) w :=
  run_eql_iface_ptr_same w a Tryf.underlying28 Tryf.underlying34 rfl rfl rfl
theorem other (vx vy : Value) (w : World) : (binOp .eql 28 (.iface 42 vx) (.iface 34 vy)).run Tryf.prog w = .ok (.bool false) w :=
  run_eql_iface_types 42 34 vx vy Tryf.underlying28 (by decide) w
theorem nilLeft (v : Value) (w : World) : (binOp .eql 28 .nilIface (.iface 34 v)).run Tryf.prog w = .ok (.bool false) w :=
  run_eql_iface_nil_left w 34 v Tryf.underlying28
theorem nilRight (T : TypeId) (v : Value) (w : World) : (binOp .eql 28 (.iface T v) .nilIface).run Tryf.prog w = .ok (.bool false) w := by
  kernel_rfl

theorem drewN {B : Nat} {a w : World} (h : Below B a w) (n : Nat) : Below B a (w.drewN n) := h.trans ⟨rfl, rfl, rfl, Nat.le_refl _, fun _ _ => rfl⟩
theorem after {a b c : World} (h : Below a.heap.size a b) (k : Below b.heap.size b c) : Below a.heap.size a c := h.trans (k.mono h.size)
theorem newBelow (w : World) (o : Obj) : Below w.heap.size w (w.alloc o) := (Below.refl _ _).alloc (Nat.le_refl _) _
theorem lt_alloc (w : World) (o : Obj) : w.heap.size < (w.alloc o).heap.size := by
  show w.heap.size < (w.heap.push o).size
  simp
theorem cell_new (w : World) (s : ByteArray) : (w.alloc (.cells #[.string s] 36)).cell? ⟨w.heap.size, 0, none⟩ = some (.string s) := by go_simp
theorem answers {F : Interp} {B : Nat} {w w' : World} (hF : F.answers w.tape) (h : Below B w w') : F.answers w'.tape := by rw [h.tape]; exact hF

set_option maxHeartbeats 400000 in
theorem zz_no (k : Int) (f s : ByteArray) (w : World) (hk : (k == 2) = false) :
    Calls Tryf.prog 6 #[.int .i64 k, .string f, .string s] w fun e w' => e = .returned (.tuple #[.bool false, .bool true, .bool false]) ∧ Below w.heap.size w w' := by
  have h1 := same34
  have h2 := other
  have h3 := nilLeft
  have h4 := nilRight
  go_enter Tryf.func6, Tryf.ntmps6
  go_wp2_with fail
  refine (new_any s _).mono ?_
  rintro e w1 ⟨rfl, rfl⟩
  go_wp2_with fail
  refine (wrap_no k f 34 _ _ hk).mono ?_
  rintro e w2 ⟨rfl, hb⟩
  have HB := hide hb
  clear hb
  go_wp2
  go_quiet ((go_at_call 11; exact Calls.quiet_of_same (unwrap_34 _ _)))
  go_wp2
  go_ret3
  exact ⟨rfl, drewN (after (newBelow _ _) HB.out) _⟩

set_option maxHeartbeats 400000 in
theorem zz_yes (F : Interp) (f s : ByteArray) (w : World) (hF : F.answers w.tape) :
    Calls Tryf.prog 6 #[.int .i64 2, .string f, .string s] w fun e w' => e = .returned (.tuple #[.bool false, .bool false, .bool true]) ∧ Below w.heap.size w w' := by
  have h1 := same34
  have h2 := other
  have h3 := nilLeft
  have h4 := nilRight
  have HF := hide hF
  clear hF
  go_enter Tryf.func6, Tryf.ntmps6
  go_wp2_with fail
  refine (new_any s _).mono ?_
  rintro e w1 ⟨rfl, rfl⟩
  go_wp2_with fail
  refine (wrap_yes34 F f w.heap.size s _ (by exact HF.out) (by exact lt_alloc _ _) (by exact cell_new _ _)).mono ?_
  rintro e w2 ⟨g, t, rfl, hg, hb, hc0, hc1⟩
  have HB := hide hb
  clear hb
  go_wp2
  go_quiet ((go_at_call 11; exact Calls.quiet_of_same (unwrap_42 _ _ _ _ (by exact hc1))))
  go_wp2
  go_ret3
  exact ⟨rfl, drewN (after (newBelow _ _) HB.out) _⟩

set_option maxHeartbeats 400000 in
theorem twice_nn (k1 : Int) (k2 : Int) (f1 f2 s : ByteArray) (w : World) (hk1 : (k1 == 2) = false) (hk2 : (k2 == 2) = false) :
    Calls Tryf.prog 8 #[.int .i64 k1, .string f1, .int .i64 k2, .string f2, .string s] w fun e w' => e = .returned (.tuple #[.bool true, .bool false, .bool false]) ∧ Below w.heap.size w w' := by
  have h1 := same34
  have h2 := other
  have h3 := nilLeft
  have h4 := nilRight
  go_enter Tryf.func8, Tryf.ntmps8
  go_wp2_with fail
  refine (new_any s _).mono ?_
  rintro e w1 ⟨rfl, rfl⟩
  go_wp2_with fail
  refine (wrap_no k1 f1 34 _ _ hk1).mono ?_
  rintro e w2 ⟨rfl, hb⟩
  have HB := hide hb
  clear hb
  go_wp2_with fail
  refine (wrap_no k2 f2 34 _ _ hk2).mono ?_
  rintro e w3 ⟨rfl, hb⟩
  have HB3 := hide hb
  clear hb
  go_wp2
  go_quiet ((first | (go_at_call_of 11 (Value.iface 34 (Value.pointer (some ⟨w.heap.size, 0, none⟩))); exact Calls.quiet_of_same (unwrap_34 _ _)) | (go_at_call_of 11 Value.nilIface; exact Calls.quiet_of_same (unwrap_nil _))))
  go_wp2
  go_ret3
  exact ⟨rfl, drewN (after (after (newBelow _ _) HB.out) HB3.out) _⟩

set_option maxHeartbeats 400000 in
theorem twice_ny (F : Interp) (k1 : Int) (f1 f2 s : ByteArray) (w : World) (hF : F.answers w.tape) (hk1 : (k1 == 2) = false) :
    Calls Tryf.prog 8 #[.int .i64 k1, .string f1, .int .i64 2, .string f2, .string s] w fun e w' => e = .returned (.tuple #[.bool false, .bool true, .bool false]) ∧ Below w.heap.size w w' := by
  have h1 := same34
  have h2 := other
  have h3 := nilLeft
  have h4 := nilRight
  have HF := hide hF
  clear hF
  go_enter Tryf.func8, Tryf.ntmps8
  go_wp2_with fail
  refine (new_any s _).mono ?_
  rintro e w1 ⟨rfl, rfl⟩
  go_wp2_with fail
  refine (wrap_no k1 f1 34 _ _ hk1).mono ?_
  rintro e w2 ⟨rfl, hb⟩
  have HB := hide hb
  clear hb
  go_wp2_with fail
  refine (wrap_yes34 F f2 w.heap.size s _ (by exact answers HF.out (after (newBelow _ _) HB.out)) (by exact Nat.lt_of_lt_of_le (lt_alloc _ _) HB.out.size) (by exact (HB.out.cell (p := ⟨w.heap.size, 0, none⟩) (lt_alloc _ _)).trans (cell_new _ _))).mono ?_
  rintro e w3 ⟨g', t', rfl, hg', hb, hd0, hd1⟩
  have HB3 := hide hb
  clear hb hd0 hg'
  go_wp2
  go_quiet ((first | (go_at_call_of 11 (Value.iface 42 (Value.pointer (some ⟨g', 0, none⟩))); exact Calls.quiet_of_same (unwrap_42 _ _ _ _ (by exact hd1))) | (go_at_call_of 11 (Value.iface 34 (Value.pointer (some ⟨w.heap.size, 0, none⟩))); exact Calls.quiet_of_same (unwrap_34 _ _))))
  go_wp2
  go_ret3
  exact ⟨rfl, drewN (after (after (newBelow _ _) HB.out) HB3.out) _⟩

set_option maxHeartbeats 400000 in
theorem twice_yn (F : Interp) (k2 : Int) (f1 f2 s : ByteArray) (w : World) (hF : F.answers w.tape) (hk2 : (k2 == 2) = false) :
    Calls Tryf.prog 8 #[.int .i64 2, .string f1, .int .i64 k2, .string f2, .string s] w fun e w' => e = .returned (.tuple #[.bool false, .bool true, .bool false]) ∧ Below w.heap.size w w' := by
  have h1 := same34
  have h2 := other
  have h3 := nilLeft
  have h4 := nilRight
  have HF := hide hF
  clear hF
  go_enter Tryf.func8, Tryf.ntmps8
  go_wp2_with fail
  refine (new_any s _).mono ?_
  rintro e w1 ⟨rfl, rfl⟩
  go_wp2_with fail
  refine (wrap_yes34 F f1 w.heap.size s _ (by exact HF.out) (by exact lt_alloc _ _) (by exact cell_new _ _)).mono ?_
  rintro e w2 ⟨g, t, rfl, hg, hb, hc0, hc1⟩
  have HB := hide hb
  clear hb
  go_wp2_with fail
  refine (wrap_no k2 f2 42 _ _ hk2).mono ?_
  rintro e w3 ⟨rfl, hb⟩
  have hc1' : w3.cell? ⟨g, 1, none⟩ = some (.iface 34 (.pointer (some ⟨w.heap.size, 0, none⟩))) := by rw [hb.cell (p := ⟨g, 1, none⟩) hg]; exact hc1
  have HB3 := hide hb
  clear hb hc0 hc1 hg
  go_wp2
  go_quiet ((first | (go_at_call_of 11 (Value.iface 42 (Value.pointer (some ⟨g, 0, none⟩))); exact Calls.quiet_of_same (unwrap_42 _ _ _ _ (by exact hc1'))) | (go_at_call_of 11 (Value.iface 34 (Value.pointer (some ⟨w.heap.size, 0, none⟩))); exact Calls.quiet_of_same (unwrap_34 _ _))))
  go_wp2
  go_ret3
  exact ⟨rfl, drewN (after (after (newBelow _ _) HB.out) HB3.out) _⟩

set_option maxHeartbeats 400000 in
theorem twice_yy (F : Interp) (f1 f2 s : ByteArray) (w : World) (hF : F.answers w.tape) :
    Calls Tryf.prog 8 #[.int .i64 2, .string f1, .int .i64 2, .string f2, .string s] w fun e w' => e = .returned (.tuple #[.bool false, .bool false, .bool true]) ∧ Below w.heap.size w w' := by
  have h1 := same34
  have h2 := other
  have h3 := nilLeft
  have h4 := nilRight
  have HF := hide hF
  clear hF
  go_enter Tryf.func8, Tryf.ntmps8
  go_wp2_with fail
  refine (new_any s _).mono ?_
  rintro e w1 ⟨rfl, rfl⟩
  go_wp2_with fail
  refine (wrap_yes34 F f1 w.heap.size s _ (by exact HF.out) (by exact lt_alloc _ _) (by exact cell_new _ _)).mono ?_
  rintro e w2 ⟨g, t, rfl, hg, hb, hc0, hc1⟩
  have HB := hide hb
  clear hb
  go_wp2_with fail
  refine (wrap_yes42 F f2 g t _ (by exact answers HF.out (after (newBelow _ _) HB.out)) hg hc0).mono ?_
  rintro e w3 ⟨g', t', rfl, hg', hb, hd0, hd1⟩
  have hc1' : w3.cell? ⟨g, 1, none⟩ = some (.iface 34 (.pointer (some ⟨w.heap.size, 0, none⟩))) := by rw [hb.cell (p := ⟨g, 1, none⟩) hg]; exact hc1
  have HB3 := hide hb
  clear hb hc0 hc1 hd0 hg hg'
  go_wp2
  go_quiet ((first | (go_at_call_of 11 (Value.iface 42 (Value.pointer (some ⟨g', 0, none⟩))); exact Calls.quiet_of_same (unwrap_42 _ _ _ _ (by exact hd1))) | (go_at_call_of 11 (Value.iface 42 (Value.pointer (some ⟨g, 0, none⟩))); exact Calls.quiet_of_same (unwrap_42 _ _ _ _ (by exact hc1')))))
  go_wp2
  go_ret3
  exact ⟨rfl, drewN (after (after (newBelow _ _) HB.out) HB3.out) _⟩

end Go.Proofs.Qxb6612635aFmt.Zz
