/-
  The closed facts for the walk over the stopped fmt.errorf (function 12), after the kit's own print for such dumps: each by the kernel's evaluation.
-/
import Derived.Test.Qxb6619172aFmtRows
import Derived.Stop.CallBack
import Derived.Stop.IfaceNil
import GoSem.ClaimData
namespace Go.Proofs.Qxb6619172aFmt
open Go.Extern.Stop Go.Stop Go.Extern

theorem call12 (args : Array Value) (w : World) : (callFunc 12 args).run Tryf.prog w = ((FmtStop.errorf #[9, 32] #[26] args).run Tryf.prog w).andThen fun v w' => .ok (.value v) w' :=
  run_callFunc_extern Tryf.func12 (by kernel_rfl) (by kernel_rfl) (by kernel_rfl) (by kernel_rfl) args w

theorem guard (name : String) (w : World) : (FmtStop.guard name).run Tryf.prog w = .ok () w := by kernel_rfl

/-- The format's bytes. -/
def fmtB : ByteArray := ⟨#[37, 113, 32, 105, 115, 32, 110, 111, 116, 32, 97, 32, 118, 105, 115, 105, 98, 105, 108, 105, 116, 121, 58, 32, 112, 117, 98, 108, 105, 99, 44, 32, 117, 110, 108, 105, 115, 116, 101, 100, 32, 111, 114, 32, 112, 114, 105, 118, 97, 116, 101]⟩
theorem fmt0 : FmtStop.printed? ⟨#[37, 113, 32, 105, 115, 32, 110, 111, 116, 32, 97, 32, 118, 105, 115, 105, 98, 105, 108, 105, 116, 121, 58, 32, 112, 117, 98, 108, 105, 99, 44, 32, 117, 110, 108, 105, 115, 116, 101, 100, 32, 111, 114, 32, 112, 114, 105, 118, 97, 116, 101]⟩ 1 = some [(0, 113, false)] := by kernel_rfl
theorem fmt0r (w : World) : (FmtDoors.printed ⟨#[37, 113, 32, 105, 115, 32, 110, 111, 116, 32, 97, 32, 118, 105, 115, 105, 98, 105, 108, 105, 116, 121, 58, 32, 112, 117, 98, 108, 105, 99, 44, 32, 117, 110, 108, 105, 115, 116, 101, 100, 32, 111, 114, 32, 112, 114, 105, 118, 97, 116, 101]⟩ 1).run Tryf.prog w = .ok [(0, 113, false)] w := by kernel_rfl
theorem name9 : Tryf.prog.typeName? 3 9 = some "string" := by kernel_rfl
def shape9 : List UInt8 := [12, 6, 0, 0, 0, 0, 0, 0, 0, 115, 116, 114, 105, 110, 103]
theorem op9_113 (name : String) (x : ByteArray) (w : World) : (FmtStop.operand name false 113 false (.iface 9 (.string x))).run Tryf.prog w = .ok (shape9, FmtStop.pack x.data.toList) w := by kernel_rfl
theorem op9_113w (name : String) (x : ByteArray) (w : World) : (FmtStop.operand name true 113 false (.iface 9 (.string x))).run Tryf.prog w = .ok (shape9, FmtStop.pack x.data.toList) w := by kernel_rfl
theorem strict9 (name : String) (x : ByteArray) (w : World) : (FmtStop.strict name (.iface 9 (.string x))).run Tryf.prog w = .ok (shape9, FmtStop.pack x.data.toList) w := by kernel_rfl
theorem ptr35 (w : World) : (FmtStop.ptrTo "errors.errorString").run Tryf.prog w = .ok 35 w := by kernel_rfl
theorem elem35 (w : World) : (elemOf 35).run Tryf.prog w = .ok 37 w := by kernel_rfl
theorem isError35 (w : World) : (FmtDoors.textMethod 35 "Error").run Tryf.prog w = .ok true w := by kernel_rfl
theorem ptr34 (w : World) : (FmtStop.ptrTo "fmt.wrapError").run Tryf.prog w = .ok 34 w := by kernel_rfl
theorem elem34 (w : World) : (elemOf 34).run Tryf.prog w = .ok 55 w := by kernel_rfl
theorem isError34 (w : World) : (FmtDoors.textMethod 34 "Error").run Tryf.prog w = .ok true w := by kernel_rfl

end Go.Proofs.Qxb6619172aFmt
