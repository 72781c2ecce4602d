/-
  THE CLOSED FACTS FOR THE WALK OVER fmt's STOPPED FRONT 'fmt.errorf' (9), after the guide's CheckFmt.lean: each by the kernel's own evaluation.
-/
import Derived.Test.Qxb6613534aFmtProg
import Derived.Stop.CallBack
import Derived.Stop.IfaceNil
import GoSem.ClaimData
namespace Go.Proofs.Qxb6613534aFmt
open Go.Extern.Stop Go.Stop Go.Extern

theorem call9 (args : Array Value) (w : World) : (callFunc 9 args).run Tryf.prog w = ((FmtStop.errorf #[9, 29] #[25] args).run Tryf.prog w).andThen fun v w' => .ok (.value v) w' :=
  run_callFunc_extern Tryf.func9 (by kernel_rfl) (by kernel_rfl) (by kernel_rfl) (by kernel_rfl) args w
theorem guard (name : String) (w : World) : (FmtStop.guard name).run Tryf.prog w = .ok () w := by kernel_rfl
theorem fmt0 : FmtStop.printed? ⟨#[116, 104, 111, 115, 101, 32, 108, 97, 110, 100, 101, 100, 32, 112, 97, 116, 104, 115, 32, 99, 97, 110, 110, 111, 116, 32, 98, 101, 32, 116, 97, 107, 101, 110, 32, 97, 108, 111, 110, 101, 58, 32, 37, 115, 32, 119, 111, 117, 108, 100, 32, 99, 104, 97, 110, 103, 101, 32, 116, 111, 111]⟩ 1 = some [(0, 115, false)] := by kernel_rfl
theorem fmt0r (w : World) : (FmtDoors.printed ⟨#[116, 104, 111, 115, 101, 32, 108, 97, 110, 100, 101, 100, 32, 112, 97, 116, 104, 115, 32, 99, 97, 110, 110, 111, 116, 32, 98, 101, 32, 116, 97, 107, 101, 110, 32, 97, 108, 111, 110, 101, 58, 32, 37, 115, 32, 119, 111, 117, 108, 100, 32, 99, 104, 97, 110, 103, 101, 32, 116, 111, 111]⟩ 1).run Tryf.prog w = .ok [(0, 115, false)] w := by kernel_rfl
theorem fmt1 : FmtStop.printed? ⟨#[116, 104, 111, 115, 101, 32, 108, 97, 110, 100, 101, 100, 32, 112, 97, 116, 104, 115, 32, 99, 97, 110, 110, 111, 116, 32, 98, 101, 32, 116, 97, 107, 101, 110, 32, 97, 108, 111, 110, 101, 58, 32, 37, 115, 32, 119, 111, 117, 108, 100, 32, 99, 104, 97, 110, 103, 101, 32, 116, 111, 111]⟩ 0 = some [] := by kernel_rfl
theorem fmt1r (w : World) : (FmtDoors.printed ⟨#[116, 104, 111, 115, 101, 32, 108, 97, 110, 100, 101, 100, 32, 112, 97, 116, 104, 115, 32, 99, 97, 110, 110, 111, 116, 32, 98, 101, 32, 116, 97, 107, 101, 110, 32, 97, 108, 111, 110, 101, 58, 32, 37, 115, 32, 119, 111, 117, 108, 100, 32, 99, 104, 97, 110, 103, 101, 32, 116, 111, 111]⟩ 0).run Tryf.prog w = .ok [] w := by kernel_rfl
def shape9 : List UInt8 := [12, 6, 0, 0, 0, 0, 0, 0, 0, 115, 116, 114, 105, 110, 103]
theorem op9_115 (name : String) (x : ByteArray) (w : World) : (FmtStop.operand name false 115 false (.iface 9 (.string x))).run Tryf.prog w = .ok (shape9, FmtStop.pack x.data.toList) w := by kernel_rfl
theorem op9_115w (name : String) (x : ByteArray) (w : World) : (FmtStop.operand name true 115 false (.iface 9 (.string x))).run Tryf.prog w = .ok (shape9, FmtStop.pack x.data.toList) w := by kernel_rfl
theorem strict9 (name : String) (x : ByteArray) (w : World) : (FmtStop.strict name (.iface 9 (.string x))).run Tryf.prog w = .ok (shape9, FmtStop.pack x.data.toList) w := by kernel_rfl
theorem ptr40 (w : World) : (FmtStop.ptrTo "errors.errorString").run Tryf.prog w = .ok 40 w := by kernel_rfl
theorem elem40 (w : World) : (elemOf 40).run Tryf.prog w = .ok 42 w := by kernel_rfl
theorem isError40' (w : World) : (FmtDoors.textMethod 40 "Error").run Tryf.prog w = .ok true w := by kernel_rfl
theorem ptr31 (w : World) : (FmtStop.ptrTo "fmt.wrapError").run Tryf.prog w = .ok 31 w := by kernel_rfl
theorem elem31 (w : World) : (elemOf 31).run Tryf.prog w = .ok 62 w := by kernel_rfl
theorem isError31' (w : World) : (FmtDoors.textMethod 31 "Error").run Tryf.prog w = .ok true w := by kernel_rfl
end Go.Proofs.Qxb6613534aFmt
