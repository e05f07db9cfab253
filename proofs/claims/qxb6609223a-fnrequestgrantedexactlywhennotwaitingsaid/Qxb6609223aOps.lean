/-
  Laws at an operation on a map (look-up, store, delete, len), each handed its run.
-/
import Derived.Test.Qxb6609223aChain
import Derived.Maps.OwnSet
import Derived.Maps.OwnOps
namespace Go.Proofs.Qxb6609223a
open Go.RowKit
open Go.Proofs.Qxb6609223a.Kit

section
variable {P : Program} (w : World) {ops : Array Oper} {rest : List Oper} {o : Oper} {a : Act} {Q : Exit → Act → World → Prop}

theorem wpList_lookup_run (hg : o.guard = none) (m x : Operand) (t : TypeId) (ok : Bool) (hop : o.op = Op.lookup t m x ok) (r : Value) (hrun : (Instr.lookup t (a.eval m) (a.eval x) ok).run P w = .ok r w)
    (hK : wpList P ops Q rest (a.put o.dst r) w) : wpList P ops Q (o :: rest) a w := by
  refine wpList_plain hg fun K' hK' => ?_
  unfold Oper.wp
  simp [execOp, hop, hrun, Result.andThen]
  exact hK' _ _ hK

theorem wpList_mapUpdate_run (hg : o.guard = none) (m x v : Operand) (t : TypeId) (hop : o.op = Op.mapUpdate t m x v) (w' : World) (hrun : (Instr.mapUpdate t (a.eval m) (a.eval x) (a.eval v)).run P w = .ok () w')
    (hK : wpList P ops Q rest (a.put o.dst undef) w') : wpList P ops Q (o :: rest) a w := by
  refine wpList_plain hg fun K' hK' => ?_
  unfold Oper.wp
  simp [execOp, hop, hrun, Result.andThen]
  exact hK' _ _ hK

theorem wpList_delete_run (hg : o.guard = none) (m x : Operand) (t k : TypeId) (hop : o.op = Op.call { callee := Callee.builtin Builtin.delete, args := #[m, x], argTypes := #[t, k] }) (w' : World)
    (hrun : (Builtin.delete_ #[t, k] o.type #[a.eval m, a.eval x]).run P w = .ok (.tuple #[]) w') (hK : wpList P ops Q rest (a.put o.dst (.tuple #[])) w') : wpList P ops Q (o :: rest) a w := by
  refine wpList_plain hg fun K' hK' => ?_
  unfold Oper.wp
  simp [execOp, hop, resolve, invoke, builtin, hrun, Result.andThen]
  exact hK' _ _ hK

theorem wpList_len_run (hg : o.guard = none) (m : Operand) (t : TypeId) (hop : o.op = Op.call { callee := Callee.builtin Builtin.len, args := #[m], argTypes := #[t] }) (r : Value) (hrun : (Builtin.len_ #[t] o.type #[a.eval m]).run P w = .ok r w)
    (hK : wpList P ops Q rest (a.put o.dst r) w) : wpList P ops Q (o :: rest) a w := by
  refine wpList_plain hg fun K' hK' => ?_
  unfold Oper.wp
  simp [execOp, hop, resolve, invoke, builtin, hrun, Result.andThen]
  exact hK' _ _ hK
end

theorem zero64 (w : World) : (zeroValue 64).run Try.prog w = .ok (.pointer none) w := by kernel_rfl
theorem zero63 (w : World) : (zeroValue 63).run Try.prog w = .ok (.pointer none) w := by kernel_rfl
theorem zero22 (w : World) : (zeroValue 22).run Try.prog w = .ok (.slice none 0 0) w := by kernel_rfl
theorem zero9 (w : World) : (zeroValue 9).run Try.prog w = .ok (.string ⟨#[]⟩) w := by kernel_rfl

theorem SM.len {k e t : TypeId} {w : World} {b : Nat} {f : ByteArray → Option Value} (h : SM w b f) (ht : Try.prog.underlying t = some (.map k e)) (ty : TypeId) : ∃ n : Nat, (Builtin.len_ #[t] ty #[.map (some b)]).run Try.prog w = .ok (.int .i64 n) w := by
  obtain ⟨es, clock, hb, _⟩ := h
  exact ⟨es.size, by simp [Builtin.len_, run_underlying ht, MapKept.run_getObj_map hb]; rfl⟩

end Go.Proofs.Qxb6609223a
