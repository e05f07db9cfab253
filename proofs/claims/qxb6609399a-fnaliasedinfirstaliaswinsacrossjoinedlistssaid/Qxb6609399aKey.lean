/-
  The walks of list.len, list.at, name.part, ZZsubjectParts, ZZkey.
-/
import Derived.Test.Qxb6609399aCols
import Derived.WalkSpells
import Derived.Laws.IdiomCopy
namespace Go.Proofs.Qxb6609399a
open Go.RowKit
open Go.Proofs.Qxb6609399a.Kit

theorem len_any (ct : TypeId) (cy : Value) (ro : Option Addr) (m rcap : Nat) (hm : (m : Int) ≤ 1000000) (w : World) :
    Calls Try.prog 14 #[.agg #[.iface ct cy, .slice ro m rcap, .bool true]] w fun e w' => e = .returned (.int .i64 (1 + m)) ∧ Below w.heap.size w w' := by
  go_enter Try.func14, Try.ntmps14
  go_wp2
  go_ret
  exact ⟨rfl, (Below.refl _ _).alloc (Nat.le_refl _) _⟩

theorem len_none (w : World) :
    Calls Try.prog 14 #[.agg #[.nilIface, .slice none 0 0, .bool false]] w fun e w' => e = .returned (.int .i64 0) ∧ Below w.heap.size w w' := by
  go_enter Try.func14, Try.ntmps14
  go_wp2
  go_ret
  exact ⟨rfl, (Below.refl _ _).alloc (Nat.le_refl _) _⟩

theorem at_zero (ct : TypeId) (cy : Value) (ro : Option Addr) (m rcap : Nat) (w : World) :
    Calls Try.prog 15 #[.agg #[.iface ct cy, .slice ro m rcap, .bool true], .int .i64 0] w fun e w' => e = .returned (.iface ct cy) ∧ Below w.heap.size w w' := by
  go_enter Try.func15, Try.ntmps15
  go_wp2
  go_ret
  exact ⟨rfl, (Below.refl _ _).alloc (Nat.le_refl _) _⟩

theorem at_more (ct : TypeId) (cy : Value) (g m rcap i : Nat) (xt : TypeId) (xy : Value) (w : World) (hi : i < m) (hm : (m : Int) ≤ 1000000) (hg : g < w.heap.size) (hc : w.cell? ⟨g, i, none⟩ = some (.iface xt xy)) :
    Calls Try.prog 15 #[.agg #[.iface ct cy, .slice (some ⟨g, 0, none⟩) m rcap, .bool true], .int .i64 (i + 1)] w fun e w' => e = .returned (.iface xt xy) ∧ Below w.heap.size w w' := by
  have h1 : ((i : Int) + 1 == 0) = false := by simp; omega
  go_enter Try.func15, Try.ntmps15
  go_wp2
  go_ret
  exact ⟨rfl, (Below.refl _ _).alloc (Nat.le_refl _) _⟩

theorem part_any (g : Nat) (s : ByteArray) (w : World) (h3 : w.cell? ⟨g, 3, none⟩ = some (.string s)) (h5 : w.cell? ⟨g, 5, none⟩ = some (.slice none 0 0)) :
    Calls Try.prog 16 #[.pointer (some ⟨g, 2, none⟩), .int .i64 0] w fun e w' => e = .returned (.string s) ∧ w' = w := by
  have qT : ∀ (w : World) (a : Option Addr) (n c n' c' : Nat), (binOp .neq 29 (.slice a n c) (.slice none n' c')).run Try.prog w = .ok (.bool (!a.isNone)) w := fun w a n c n' c' => run_neq_slice_nil_any w _ _ a n c n' c' Try.underlying29
  go_enter Try.func16, Try.ntmps16
  go_wp2
  go_ret
  exact ⟨rfl, rfl⟩

theorem parts_any (f p0 p1 : ByteArray) (k : Int) (w : World) :
    Calls Try.prog 11 #[.agg #[.string f, .nilIface, .int .i64 k, .string p0, .string p1, .slice none 0 0]] w fun e w' =>
      e = .returned (.tuple #[.string f, .int .i64 k, .string p0, .string p1, .bool true, .int .i64 0]) ∧ Below w.heap.size w w' := by
  go_enter Try.func11, Try.ntmps11
  go_wp2
  go_quiet (fail)
  go_wp2
  exact bodyPost_ret (v := .tuple #[.string f, .int .i64 k, .string p0, .string p1, .bool true, .int .i64 0]) (by simp [results, Try.results11, go_sem]) rfl ⟨rfl, ((Below.refl _ _).alloc (Nat.le_refl _) _).trans ⟨rfl, rfl, rfl, Nat.le_refl _, fun _ _ => rfl⟩⟩

theorem copy_key (g : Nat) (s : ByteArray) (w : World) (o : Obj) (c0 c1 c2 c5 : Value) (hg : g < w.heap.size) (hc : w.cell? ⟨g, 0, none⟩ = some (.string s)) :
    (Builtin.copy_ #[29, 29] 3 #[.slice (some ⟨w.heap.size + 1, 3, none⟩) 2 2, .slice (some ⟨g, 0, none⟩) 1 1]).run Try.prog ((w.alloc o).alloc (.cells #[c0, c1, c2, .string ⟨#[]⟩, .string ⟨#[]⟩, c5] 39)) =
      .ok (.int .i64 1) ((w.alloc o).alloc (.cells #[c0, c1, c2, .string s, .string ⟨#[]⟩, c5] 39)) := by
  have hW : ((w.alloc o).alloc (.cells #[c0, c1, c2, .string ⟨#[]⟩, .string ⟨#[]⟩, c5] 39)).cell? ⟨g, 0, none⟩ = some (.string s) := by
    rw [(((Below.refl w.heap.size w).alloc (Nat.le_refl _) o).alloc (by simp) _).cell (p := ⟨g, 0, none⟩) hg]
    exact hc
  have := run_copy_cells (P := Try.prog) ((w.alloc o).alloc (.cells #[c0, c1, c2, .string ⟨#[]⟩, .string ⟨#[]⟩, c5] 39)) 29 29 3 9 (w.heap.size + 1) 3 2 2 ⟨g, 0, none⟩ 1 1 [.string s] Try.underlying29 (by kernel_rfl) rfl
    (fun j v hv => by
      match j, hv with
      | 0, hv => simp at hv; subst hv; simpa [Addr.add] using hW)
    (fun j hj => by obtain rfl : j = 0 := by simpa using hj
                    go_simp)
    (fun j hj => by obtain rfl : j = 0 := by simpa using hj
                    go_simp)
    (fun v hv => by simp at hv; subst hv; rfl)
  rw [this]
  simp only [World.setCells]
  go_simp

theorem key_any (g : Nat) (s : ByteArray) (w : World) (hg : g < w.heap.size) (hc : w.cell? ⟨g, 0, none⟩ = some (.string s)) :
    Calls Try.prog 10 #[.string ⟨#[]⟩, .bool false, .slice (some ⟨g, 0, none⟩) 1 1] w fun e w' =>
      e = .returned (.agg #[.string ⟨#[]⟩, .nilIface, .int .i64 1, .string s, .string ⟨#[]⟩, .slice none 0 0]) ∧ Below w.heap.size w w' := by
  have hcp := fun o c0 c1 c2 c5 => copy_key g s w o c0 c1 c2 c5 hg hc
  go_enter Try.func10, Try.ntmps10
  go_wp2
  exact bodyPost_ret (v := .agg #[.string ⟨#[]⟩, .nilIface, .int .i64 1, .string s, .string ⟨#[]⟩, .slice none 0 0]) (by simp [results, Try.results10, go_sem]) rfl ⟨rfl, ((Below.refl _ _).alloc (Nat.le_refl _) _).alloc (by simp) _⟩

theorem Tail.mono {W w : World} {rest : Value} {m : Nat} {f : Nat → Value} (h : Tail W rest m f) (hb : Below W.heap.size W w) : Tail w rest m f := by
  obtain ⟨ro, rcap, rfl, h1, h2, h3⟩ := h
  refine ⟨ro, rcap, rfl, h1, h2, ?_⟩
  rcases h3 with h3 | ⟨g, rfl, hg, hc⟩
  · exact Or.inl h3
  · refine Or.inr ⟨g, rfl, Nat.lt_of_lt_of_le hg hb.size, fun i hi => ?_⟩
    rw [hb.cell (p := ⟨g, i, none⟩) hg]
    exact hc i hi

/-- list.at at any index. -/
theorem at_any (L : List Item) (ct : TypeId) (cy rest : Value) (j : Nat) (w : World) (h0 : colVal (at_ L 0) = .iface ct cy) (hL : L.length ≤ 262144) (hj : j < L.length) (ht : Tail w rest (L.length - 1) (fun i => colVal (at_ L (i + 1)))) :
    Calls Try.prog 15 #[.agg #[.iface ct cy, rest, .bool true], .int .i64 j] w fun e w' => e = .returned (colVal (at_ L j)) ∧ Below w.heap.size w w' := by
  obtain ⟨ro, rcap, rfl, h1, h2, h3⟩ := ht
  cases j with
  | zero => rw [h0]; exact at_zero ct cy ro _ rcap w
  | succ i =>
    rcases h3 with h3 | ⟨g, rfl, hg, hc⟩
    · omega
    · obtain ⟨xt, xy, hx⟩ := colVal_iface (at_ L (i + 1))
      have hci := hc i (by omega)
      simp only [hx] at hci
      rw [hx]
      have e : ((i + 1 : Nat) : Int) = (i : Int) + 1 := by omega
      rw [e]
      exact at_more ct cy g _ rcap i xt xy w (by omega) (by omega) hg hci

end Go.Proofs.Qxb6609399a
