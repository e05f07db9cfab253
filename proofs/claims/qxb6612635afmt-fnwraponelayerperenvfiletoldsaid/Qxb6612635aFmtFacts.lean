/-
  Closed facts of this dump for a walk over the stopped front fmt.errorf, for errors.Unwrap and for the comparisons of errors. After the shape of the kit's worked guard; each by the kernel's own reckoning or by a law of the kit.
-/
import Derived.Test.Qxb6612635aFmtRows
import Derived.Stop.CallBack
import Derived.Stop.IfaceNil
import Derived.Stop.Asserts
import GoSem.ClaimData
namespace Go.Proofs.Qxb6612635aFmt.Facts
open Go.Extern.Stop Go.Stop Go.Extern

theorem call13 (args : Array Value) (w : World) : (callFunc 13 args).run Tryf.prog w = ((FmtStop.errorf #[9, 41] #[28] args).run Tryf.prog w).andThen fun v w' => .ok (.value v) w' :=
  run_callFunc_extern Tryf.func13 (by kernel_rfl) (by kernel_rfl) (by kernel_rfl) (by kernel_rfl) args w

theorem guardOk (name : String) (w : World) : (FmtStop.guard name).run Tryf.prog w = .ok () w := by kernel_rfl

-- the format: percent s, colon, blank, percent w
theorem fmt0 : FmtStop.printed? ⟨#[37, 115, 58, 32, 37, 119]⟩ 2 = some [(0, 115, false), (1, 119, false)] := by kernel_rfl
theorem fmt0r (w : World) : (FmtDoors.printed ⟨#[37, 115, 58, 32, 37, 119]⟩ 2).run Tryf.prog w = .ok [(0, 115, false), (1, 119, false)] w := by kernel_rfl
theorem fmt1 : FmtStop.printed? ⟨#[37, 115, 58, 32, 37, 119]⟩ 0 = some [] := by kernel_rfl
theorem fmt1r (w : World) : (FmtDoors.printed ⟨#[37, 115, 58, 32, 37, 119]⟩ 0).run Tryf.prog w = .ok [] w := by kernel_rfl

def shape9 : List UInt8 := [12, 6, 0, 0, 0, 0, 0, 0, 0, 115, 116, 114, 105, 110, 103]
theorem op9_115w (name : String) (x : ByteArray) (w : World) : (FmtStop.operand name true 115 false (.iface 9 (.string x))).run Tryf.prog w = .ok (shape9, FmtStop.pack x.data.toList) w := by kernel_rfl

theorem ptr34 (w : World) : (FmtStop.ptrTo "errors.errorString").run Tryf.prog w = .ok 34 w := by kernel_rfl
theorem elem34 (w : World) : (elemOf 34).run Tryf.prog w = .ok 36 w := by kernel_rfl
theorem isError34 (w : World) : (FmtDoors.textMethod 34 "Error").run Tryf.prog w = .ok true w := by kernel_rfl
theorem ptr42 (w : World) : (FmtStop.ptrTo "fmt.wrapError").run Tryf.prog w = .ok 42 w := by kernel_rfl
theorem elem42 (w : World) : (elemOf 42).run Tryf.prog w = .ok 60 w := by kernel_rfl
theorem isError42 (w : World) : (FmtDoors.textMethod 42 "Error").run Tryf.prog w = .ok true w := by kernel_rfl

def plain34 : List UInt8 := 14 :: FmtStop.pack [42, 101, 114, 114, 111, 114, 115, 46, 101, 114, 114, 111, 114, 83, 116, 114, 105, 110, 103]
def plain42 : List UInt8 := 14 :: FmtStop.pack [42, 102, 109, 116, 46, 119, 114, 97, 112, 69, 114, 114, 111, 114]

theorem opPlain34 (name : String) (a : Addr) (s : ByteArray) (w : World) (hc : w.cell? a = some (.string s)) :
    (FmtStop.operand name true 119 false (.iface 34 (.pointer (some a)))).run Tryf.prog w = .ok (plain34, s.data.toList) w := by
  have h1 : (typeStr 34).run Tryf.prog w = .ok Tryf.t34.str w := by kernel_rfl
  have e1 : Tryf.t34.str.toByteArray.data.toList = [42, 101, 114, 114, 111, 114, 115, 46, 101, 114, 114, 111, 114, 83, 116, 114, 105, 110, 103] := by kernel_rfl
  have d2 : Tryf.t34.desc = .pointer 36 := rfl
  have d3 : Tryf.t36.desc = .named "errors.errorString" 35 := rfl
  simp [FmtStop.operand, h1, e1, d2, d3, run_load, hc, plain34]

theorem opPlain42 (name : String) (a : Addr) (s : ByteArray) (w : World) (hc : w.cell? a = some (.string s)) :
    (FmtStop.operand name true 119 false (.iface 42 (.pointer (some a)))).run Tryf.prog w = .ok (plain42, s.data.toList) w := by
  have h1 : (typeStr 42).run Tryf.prog w = .ok Tryf.t42.str w := by kernel_rfl
  have e1 : Tryf.t42.str.toByteArray.data.toList = [42, 102, 109, 116, 46, 119, 114, 97, 112, 69, 114, 114, 111, 114] := by kernel_rfl
  have d2 : Tryf.t42.desc = .pointer 60 := rfl
  have d3 : Tryf.t60.desc = .named "fmt.wrapError" 59 := rfl
  simp [FmtStop.operand, h1, e1, d2, d3, run_load, hc, plain42]

-- x, ok := err.(interface with Unwrap)
theorem noUnwrap34 (v : Value) (xT : TypeId) (w : World) : (Instr.typeAssert (.iface 34 v) xT 38 true).run Tryf.prog w = .ok (.tuple #[.nilIface, .bool false]) w :=
  run_typeAssert_lacksB Tryf.underlying38 (by kernel_rfl) (by kernel_rfl) v xT w
theorem hasUnwrap42 (v : Value) (xT : TypeId) (w : World) : (Instr.typeAssert (.iface 42 v) xT 38 true).run Tryf.prog w = .ok (.tuple #[.iface 42 v, .bool true]) w :=
  run_typeAssert_hasB Tryf.underlying38 (by kernel_rfl) v xT w

end Go.Proofs.Qxb6612635aFmt.Facts
