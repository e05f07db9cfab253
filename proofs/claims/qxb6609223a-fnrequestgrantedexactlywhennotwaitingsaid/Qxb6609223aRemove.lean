/-
  container/list: Remove of the one element of a list.
-/
import Derived.Test.Qxb6609223aList
namespace Go.Proofs.Qxb6609223a
open Go.RowKit
open Go.Proofs.Qxb6609223a.Kit

theorem info69 : (Try.prog.info? 69).map (·.size) = some 5 := by kernel_rfl

theorem list_eql_same (a : Addr) (w : World) : (binOp .eql 65 (.pointer (some a)) (.pointer (some a))).run Try.prog w = .ok (.bool true) w := by
  obtain ⟨i, hi, _⟩ := Option.map_eq_some_iff.1 info69
  exact run_eql_ptr_same w a Try.underlying65 hi

/-- The world behind the removal of the one element e of the list (R, o). -/
def unlinked (w : World) (R o e : Nat) (n : Int) : World :=
  ((((((w.setCell ⟨R, o, none⟩ (.pointer (some ⟨R, o, none⟩))).setCell ⟨R, o + 1, none⟩ (.pointer (some ⟨R, o, none⟩))).setCell ⟨e, 0, none⟩ (.pointer none)).setCell ⟨e, 1, none⟩ (.pointer none)).setCell ⟨e, 2, none⟩ (.pointer none)).setCell
    ⟨R, o + 4, none⟩ (.int .i64 (n - 1))).drew.drew

set_option maxHeartbeats 1000000 in
theorem unlink_one (R o e : Nat) (w : World) (n : Int) (hB : Blk w R 75 34) (hE : Blk w e 67 4) (hne : e ≠ R) (ho : o + 4 < 34) (hn0 : 0 < n) (hn1 : n ≤ 1000000000)
    (h0 : w.cell? ⟨e, 0, none⟩ = some (.pointer (some ⟨R, o, none⟩))) (h1 : w.cell? ⟨e, 1, none⟩ = some (.pointer (some ⟨R, o, none⟩))) (h4 : w.cell? ⟨R, o + 4, none⟩ = some (.int .i64 n)) :
    Calls Try.prog 70 #[.pointer (some ⟨R, o, none⟩), .pointer (some ⟨e, 0, none⟩)] w fun r w' => r = .returned (.tuple #[]) ∧ w' = unlinked w R o e n := by
  have l1 := hB.lt
  have l2 := hE.lt
  have f0 := hB.frozen o
  have f1 := hB.frozen (o + 1)
  have f4 := hB.frozen (o + 4)
  have g0 := hE.frozen 0
  have g1 := hE.frozen 1
  have g2 := hE.frozen 2
  obtain ⟨u0, k0⟩ := hB.some (o := o) (by omega)
  obtain ⟨u1, k1⟩ := hB.some (o := o + 1) (by omega)
  obtain ⟨u2, k2⟩ := hE.some (o := 2) (by omega)
  have HB := hide hB
  have HE := hide hE
  clear hB hE
  go_enter Try.func70, Try.ntmps70
  go_wp2
  go_region
  go_wp2
  go_region
  go_wp2
  go_end0
  exact ⟨rfl, rfl⟩

theorem remove_one (R o e : Nat) (w : World) (n : Int) (ct : TypeId) (cv : Value) (hB : Blk w R 75 34) (hE : Blk w e 67 4) (hne : e ≠ R) (ho : o + 4 < 34) (hn0 : 0 < n) (hn1 : n ≤ 1000000000)
    (h0 : w.cell? ⟨e, 0, none⟩ = some (.pointer (some ⟨R, o, none⟩))) (h1 : w.cell? ⟨e, 1, none⟩ = some (.pointer (some ⟨R, o, none⟩))) (h2 : w.cell? ⟨e, 2, none⟩ = some (.pointer (some ⟨R, o, none⟩)))
    (h3 : w.cell? ⟨e, 3, none⟩ = some (.iface ct cv)) (h4 : w.cell? ⟨R, o + 4, none⟩ = some (.int .i64 n)) :
    Calls Try.prog 58 #[.pointer (some ⟨R, o, none⟩), .pointer (some ⟨e, 0, none⟩)] w fun r w' => r = .returned (.iface ct cv) ∧ w' = unlinked w R o e n := by
  have hq := list_eql_same
  have HB := hide hB
  have HE := hide hE
  have h3' : (unlinked w R o e n).cell? ⟨e, 3, none⟩ = some (.iface ct cv) := by
    unfold unlinked
    simp only [World.cell?_drew]
    have n1 : ¬ (e = R ∧ 3 = o + 4) := by omega
    have n2 : ¬ (e = R ∧ 3 = o + 1) := by omega
    have n3 : ¬ (e = R ∧ 3 = o) := by omega
    rw [cell_set_ne _ ⟨R, o + 4, none⟩ _ n1, cell_set_ne _ ⟨e, 2, none⟩ _ (by simp), cell_set_ne _ ⟨e, 1, none⟩ _ (by simp), cell_set_ne _ ⟨e, 0, none⟩ _ (by simp), cell_set_ne _ ⟨R, o + 1, none⟩ _ n2, cell_set_ne _ ⟨R, o, none⟩ _ n3]
    exact h3
  clear hB hE
  go_enter Try.func58, Try.ntmps58
  go_wp2_with (go_at_call 70; refine (unlink_one R o e _ n HB.out HE.out hne ho hn0 hn1 h0 h1 h4).mono ?_; rintro r w' ⟨rfl, rfl⟩)
  go_ret
  exact ⟨rfl, rfl⟩

end Go.Proofs.Qxb6609223a
