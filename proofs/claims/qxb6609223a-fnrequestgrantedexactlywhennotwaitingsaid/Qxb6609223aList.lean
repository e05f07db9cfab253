/-
  container/list: the walks of the functions on the road.
-/
import Derived.Test.Qxb6609223aMem
import Derived.LaidEqlPtr
namespace Go.Proofs.Qxb6609223a
open Go.RowKit
open Go.Proofs.Qxb6609223a.Kit

theorem len_list (R o : Nat) (n : Int) (w : World) (h : w.cell? ⟨R, o + 4, none⟩ = some (.int .i64 n)) :
    Calls Try.prog 46 #[.pointer (some ⟨R, o, none⟩)] w fun e w' => e = .returned (.int .i64 n) ∧ w' = w := by
  go_enter Try.func46, Try.ntmps46
  go_wp2
  go_ret
  exact ⟨rfl, rfl⟩

theorem front_nil (R o : Nat) (w : World) (h : w.cell? ⟨R, o + 4, none⟩ = some (.int .i64 0)) :
    Calls Try.prog 73 #[.pointer (some ⟨R, o, none⟩)] w fun e w' => e = .returned (.pointer none) ∧ w' = w := by
  go_enter Try.func73, Try.ntmps73
  go_wp2
  go_ret
  exact ⟨rfl, rfl⟩

theorem front_some (R o : Nat) (n : Int) (a : Addr) (w : World) (hn : (n == 0) = false) (h : w.cell? ⟨R, o + 4, none⟩ = some (.int .i64 n)) (h0 : w.cell? ⟨R, o, none⟩ = some (.pointer (some a))) :
    Calls Try.prog 73 #[.pointer (some ⟨R, o, none⟩)] w fun e w' => e = .returned (.pointer (some a)) ∧ w' = w := by
  go_enter Try.func73, Try.ntmps73
  go_wp2
  go_ret
  exact ⟨rfl, rfl⟩

theorem info67 : (Try.prog.info? 67).map (·.size) = some 4 := by kernel_rfl

theorem ptr_neq_same (a : Addr) (w : World) : (binOp .neq 64 (.pointer (some a)) (.pointer (some a))).run Try.prog w = .ok (.bool false) w := by
  obtain ⟨i, hi, _⟩ := Option.map_eq_some_iff.1 info67
  have h : ∀ d : Nat, (Op.equalIn (d + 1) 64 (.pointer (some a)) (.pointer (some a))).run Try.prog w = .ok true w := fun d => by
    simp [Op.equalIn, run_underlying Try.underlying64, sizeOf, typeInfo, hi, run_sameAddr_same]
  simp only [binOp]
  simp [Op.equal, Op.maxDepth, h 9999]

theorem ptr_neq_other {a b : Addr} {ca cb : Array Value} {ta tb : TypeId} (w : World) (hne : a ≠ b) (ha : w.heap[a.block]? = some (.cells ca ta (0, 0))) (hb : w.heap[b.block]? = some (.cells cb tb (0, 0))) :
    (binOp .neq 64 (.pointer (some a)) (.pointer (some b))).run Try.prog w = .ok (.bool true) w := by
  obtain ⟨i, hi, hs⟩ := Option.map_eq_some_iff.1 info67
  have h : ∀ d : Nat, (Op.equalIn (d + 1) 64 (.pointer (some a)) (.pointer (some b))).run Try.prog w = .ok false w := fun d => by
    simp [Op.equalIn, run_underlying Try.underlying64, sizeOf, typeInfo, hi, hs, run_sameAddr_other w hne ha hb]
  simp only [binOp]
  simp [Op.equal, Op.maxDepth, h 9999]

theorem next_end (e R o : Nat) (w : World) (h0 : w.cell? ⟨e, 0, none⟩ = some (.pointer (some ⟨R, o, none⟩))) (h2 : w.cell? ⟨e, 2, none⟩ = some (.pointer (some ⟨R, o, none⟩))) :
    Calls Try.prog 62 #[.pointer (some ⟨e, 0, none⟩)] w fun r w' => r = .returned (.pointer none) ∧ w' = w := by
  have h := ptr_neq_same
  go_enter Try.func62, Try.ntmps62
  go_wp2
  go_ret
  exact ⟨rfl, rfl⟩

theorem next_more (e e' R o : Nat) (w : World) (hE : Blk w e' 67 4) (hR : Blk w R 75 34) (hne : e' ≠ R) (h0 : w.cell? ⟨e, 0, none⟩ = some (.pointer (some ⟨e', 0, none⟩))) (h2 : w.cell? ⟨e, 2, none⟩ = some (.pointer (some ⟨R, o, none⟩))) :
    Calls Try.prog 62 #[.pointer (some ⟨e, 0, none⟩)] w fun r w' => r = .returned (.pointer (some ⟨e', 0, none⟩)) ∧ w' = w := by
  obtain ⟨ca, ha, _⟩ := hE
  obtain ⟨cb, hb, _⟩ := hR
  have h := ptr_neq_other (a := ⟨e', 0, none⟩) (b := ⟨R, o, none⟩) w (fun e => hne (by cases e; rfl)) ha hb
  clear ha hb
  go_enter Try.func62, Try.ntmps62
  go_wp2
  go_ret
  exact ⟨rfl, rfl⟩

theorem init_any (R o : Nat) (w : World) (hB : Blk w R 75 34) (ho : o + 4 < 34) :
    Calls Try.prog 71 #[.pointer (some ⟨R, o, none⟩)] w fun r w' => r = .returned (.pointer (some ⟨R, o, none⟩)) ∧
      w' = ((w.setCell ⟨R, o, none⟩ (.pointer (some ⟨R, o, none⟩))).setCell ⟨R, o + 1, none⟩ (.pointer (some ⟨R, o, none⟩))).setCell ⟨R, o + 4, none⟩ (.int .i64 0) := by
  have f0 := hB.frozen o
  have f1 := hB.frozen (o + 1)
  have f4 := hB.frozen (o + 4)
  obtain ⟨u0, h0⟩ := hB.some (o := o) (by omega)
  obtain ⟨u1, h1⟩ := hB.some (o := o + 1) (by omega)
  obtain ⟨u4, h4⟩ := hB.some (o := o + 4) (by omega)
  go_enter Try.func71, Try.ntmps71
  go_wp2
  go_ret
  exact ⟨rfl, rfl⟩

theorem lazy_no (R o : Nat) (a : Addr) (w : World) (h0 : w.cell? ⟨R, o, none⟩ = some (.pointer (some a))) :
    Calls Try.prog 59 #[.pointer (some ⟨R, o, none⟩)] w fun r w' => r = .returned (.tuple #[]) ∧ w' = w := by
  go_enter Try.func59, Try.ntmps59
  go_wp2
  go_end0
  exact ⟨rfl, rfl⟩

theorem lazy_yes (R o : Nat) (w : World) (hB : Blk w R 75 34) (ho : o + 4 < 34) (h0 : w.cell? ⟨R, o, none⟩ = some (.pointer none)) :
    Calls Try.prog 59 #[.pointer (some ⟨R, o, none⟩)] w fun r w' => r = .returned (.tuple #[]) ∧
      w' = ((w.setCell ⟨R, o, none⟩ (.pointer (some ⟨R, o, none⟩))).setCell ⟨R, o + 1, none⟩ (.pointer (some ⟨R, o, none⟩))).setCell ⟨R, o + 4, none⟩ (.int .i64 0) := by
  have HB := hide hB
  clear hB
  go_enter Try.func59, Try.ntmps59
  go_wp2_with (go_at_call 71; refine (init_any R o _ HB.out ho).mono ?_; rintro e w' ⟨rfl, rfl⟩)
  go_end0
  exact ⟨rfl, rfl⟩

/-- The world behind a push of v at the back of the list (R, o) of n elements whose last node is (a, ao). -/
def pushed (w : World) (R o a ao : Nat) (v : Value) (n : Int) : World :=
  (((w.setCell ⟨a, ao, none⟩ (.pointer (some ⟨w.heap.size, 0, none⟩))).setCell ⟨R, o + 1, none⟩ (.pointer (some ⟨w.heap.size, 0, none⟩))).setCell ⟨R, o + 4, none⟩ (.int .i64 (n + 1))).alloc
    (.cells #[.pointer (some ⟨R, o, none⟩), .pointer (some ⟨a, ao, none⟩), .pointer (some ⟨R, o, none⟩), v] 67)

/-- insertValue behind a node other than the root, whose next is the root. -/
theorem insert_elem (R o a : Nat) (ct : TypeId) (cv : Value) (n : Int) (w : World) (hB : Blk w R 75 34) (hA : Blk w a 67 4) (ho : o + 4 < 34) (hn0 : 0 ≤ n) (hn1 : n ≤ 1000000000)
    (ha : w.cell? ⟨a, 0, none⟩ = some (.pointer (some ⟨R, o, none⟩))) (h4 : w.cell? ⟨R, o + 4, none⟩ = some (.int .i64 n)) :
    Calls Try.prog 60 #[.pointer (some ⟨R, o, none⟩), .iface ct cv, .pointer (some ⟨a, 0, none⟩)] w fun r w' => r = .returned (.pointer (some ⟨w.heap.size, 0, none⟩)) ∧ w' = pushed w R o a 0 (.iface ct cv) n := by
  have l1 := hB.lt
  have l2 := hA.lt
  have f1 := hB.frozen (o + 1)
  have f4 := hB.frozen (o + 4)
  have fa := hA.frozen 0
  obtain ⟨u1, h1⟩ := hB.some (o := o + 1) (by omega)
  have HB := hide hB
  have HA := hide hA
  clear hB hA
  go_enter Try.func60, Try.ntmps60
  go_wp2
  go_ret
  exact ⟨rfl, rfl⟩

/-- insertValue behind the root of an empty list. -/
theorem insert_root (R o : Nat) (ct : TypeId) (cv : Value) (n : Int) (w : World) (hB : Blk w R 75 34) (ho : o + 4 < 34) (hn0 : 0 ≤ n) (hn1 : n ≤ 1000000000)
    (ha : w.cell? ⟨R, o, none⟩ = some (.pointer (some ⟨R, o, none⟩))) (h4 : w.cell? ⟨R, o + 4, none⟩ = some (.int .i64 n)) :
    Calls Try.prog 60 #[.pointer (some ⟨R, o, none⟩), .iface ct cv, .pointer (some ⟨R, o, none⟩)] w fun r w' => r = .returned (.pointer (some ⟨w.heap.size, 0, none⟩)) ∧ w' = pushed w R o R o (.iface ct cv) n := by
  have l1 := hB.lt
  have f0 := hB.frozen o
  have f1 := hB.frozen (o + 1)
  have f4 := hB.frozen (o + 4)
  obtain ⟨u1, h1⟩ := hB.some (o := o + 1) (by omega)
  have HB := hide hB
  clear hB
  go_enter Try.func60, Try.ntmps60
  go_wp2
  go_ret
  exact ⟨rfl, rfl⟩

theorem push_elem (R o a : Nat) (ct : TypeId) (cv : Value) (n : Int) (x : Addr) (w : World) (hB : Blk w R 75 34) (hA : Blk w a 67 4) (ho : o + 4 < 34) (hn0 : 0 ≤ n) (hn1 : n ≤ 1000000000)
    (h0 : w.cell? ⟨R, o, none⟩ = some (.pointer (some x))) (h1 : w.cell? ⟨R, o + 1, none⟩ = some (.pointer (some ⟨a, 0, none⟩))) (ha : w.cell? ⟨a, 0, none⟩ = some (.pointer (some ⟨R, o, none⟩))) (h4 : w.cell? ⟨R, o + 4, none⟩ = some (.int .i64 n)) :
    Calls Try.prog 49 #[.pointer (some ⟨R, o, none⟩), .iface ct cv] w fun r w' => r = .returned (.pointer (some ⟨w.heap.size, 0, none⟩)) ∧ w' = pushed w R o a 0 (.iface ct cv) n := by
  have HB := hide hB
  have HA := hide hA
  have H0 := hide h0
  clear hB hA
  go_enter Try.func49, Try.ntmps49
  go_wp2_with fail
  refine (lazy_no R o x _ H0.out).mono ?_
  rintro e w' ⟨rfl, rfl⟩
  go_wp2_with fail
  refine (insert_elem R o a ct cv n _ HB.out HA.out ho hn0 hn1 ha h4).mono ?_
  rintro e w'' ⟨rfl, rfl⟩
  go_wp2
  go_ret
  exact ⟨rfl, rfl⟩

theorem push_root (R o : Nat) (ct : TypeId) (cv : Value) (n : Int) (w : World) (hB : Blk w R 75 34) (ho : o + 4 < 34) (hn0 : 0 ≤ n) (hn1 : n ≤ 1000000000)
    (h0 : w.cell? ⟨R, o, none⟩ = some (.pointer (some ⟨R, o, none⟩))) (h1 : w.cell? ⟨R, o + 1, none⟩ = some (.pointer (some ⟨R, o, none⟩))) (h4 : w.cell? ⟨R, o + 4, none⟩ = some (.int .i64 n)) :
    Calls Try.prog 49 #[.pointer (some ⟨R, o, none⟩), .iface ct cv] w fun r w' => r = .returned (.pointer (some ⟨w.heap.size, 0, none⟩)) ∧ w' = pushed w R o R o (.iface ct cv) n := by
  have HB := hide hB
  clear hB
  go_enter Try.func49, Try.ntmps49
  go_wp2_with fail
  refine (lazy_no R o _ _ h0).mono ?_
  rintro e w' ⟨rfl, rfl⟩
  go_wp2_with fail
  refine (insert_root R o ct cv n _ HB.out ho hn0 hn1 h0 h4).mono ?_
  rintro e w'' ⟨rfl, rfl⟩
  go_wp2
  go_ret
  exact ⟨rfl, rfl⟩

/-- The world in which the list (R, o) has been made ready. -/
def inited (w : World) (R o : Nat) : World :=
  ((w.setCell ⟨R, o, none⟩ (.pointer (some ⟨R, o, none⟩))).setCell ⟨R, o + 1, none⟩ (.pointer (some ⟨R, o, none⟩))).setCell ⟨R, o + 4, none⟩ (.int .i64 0)

theorem inited_facts {w : World} {R o : Nat} (hB : Blk w R 75 34) (ho : o + 4 < 34) : Blk (inited w R o) R 75 34 ∧ (inited w R o).cell? ⟨R, o, none⟩ = some (.pointer (some ⟨R, o, none⟩)) ∧
    (inited w R o).cell? ⟨R, o + 1, none⟩ = some (.pointer (some ⟨R, o, none⟩)) ∧ (inited w R o).cell? ⟨R, o + 4, none⟩ = some (.int .i64 0) := by
  obtain ⟨u0, h0⟩ := hB.some (o := o) (by omega)
  obtain ⟨u1, h1⟩ := hB.some (o := o + 1) (by omega)
  obtain ⟨u4, h4⟩ := hB.some (o := o + 4) (by omega)
  unfold inited
  refine ⟨((hB.setCell _ _).setCell _ _).setCell _ _, ?_, ?_, ?_⟩
  · rw [cell_set_ne _ _ _ (by simp), cell_set_ne _ _ _ (by simp)]
    exact cell_set_same _ _ h0
  · rw [cell_set_ne _ _ _ (by simp)]
    exact cell_set_same _ _ (u := u1) (by rw [cell_set_ne _ _ _ (by simp)]; exact h1)
  · exact cell_set_same _ _ (u := u4) (by rw [cell_set_ne _ _ _ (by simp), cell_set_ne _ _ _ (by simp)]; exact h4)

theorem push_first (R o : Nat) (ct : TypeId) (cv : Value) (w : World) (hB : Blk w R 75 34) (ho : o + 4 < 34) (h0 : w.cell? ⟨R, o, none⟩ = some (.pointer none)) :
    Calls Try.prog 49 #[.pointer (some ⟨R, o, none⟩), .iface ct cv] w fun r w' => r = .returned (.pointer (some ⟨w.heap.size, 0, none⟩)) ∧ w' = pushed (inited w R o) R o R o (.iface ct cv) 0 := by
  have HB := hide hB
  have H0 := hide h0
  obtain ⟨b, c0, c1, c4⟩ := inited_facts hB ho
  have HB' := hide b
  have hs : (inited w R o).heap.size = w.heap.size := by simp [inited, World.setCell]
  have HS := hide hs
  clear hB b hs h0
  go_enter Try.func49, Try.ntmps49
  go_wp2_with fail
  refine (lazy_yes R o _ HB.out ho H0.out).mono ?_
  rintro e w' ⟨rfl, hw⟩
  have hw' : w' = inited w R o := hw
  rw [hw']
  clear hw hw'
  go_wp2_with fail
  refine (insert_root R o ct cv 0 _ HB'.out ho (by omega) (by omega) c0 c4).mono ?_
  rintro e w'' ⟨rfl, rfl⟩
  go_wp2
  go_ret
  refine ⟨?_, rfl⟩
  show Ending.returned _ = Ending.returned _
  rw [← HS.out]
  rfl

end Go.Proofs.Qxb6609223a
