/-
  THE CLOSED FACTS FOR THE WALK OVER fmt's STOPPED FRONTS: 'fmt.errorf' (16: a stop that calls its operands' String() and Error()), 'fmt.Sprintf' (12: a plain stop); after the guide's HexbadFmt.lean: each by the kernel's own evaluation.
-/
import Derived.Test.Qxb6613921aFmtRows
import Derived.Stop.CallBack
import Derived.Stop.IfaceNil
import GoSem.ClaimData
namespace Go.Proofs.Qxb6613921aFmt
open Go.Extern.Stop Go.Stop Go.Extern

theorem call16 (args : Array Value) (w : World) : (callFunc 16 args).run Tryf.prog w = (FmtCalls.errorf #[9, 44] #[32] args).run Tryf.prog w :=
  run_callFunc_next Tryf.func16 (by kernel_rfl) (by kernel_rfl) (by kernel_rfl) args w
theorem call12 (args : Array Value) (w : World) : (callFunc 12 args).run Tryf.prog w = ((FmtStop.sprintf #[9, 44] #[9] args).run Tryf.prog w).andThen fun v w' => .ok (.value v) w' :=
  run_callFunc_extern Tryf.func12 (by kernel_rfl) (by kernel_rfl) (by kernel_rfl) (by kernel_rfl) args w
theorem guard (name : String) (w : World) : (FmtStop.guard name).run Tryf.prog w = .ok () w := by kernel_rfl
theorem nextTurns : Extern.next FmtCalls.turnsRow = some (FmtCalls.begun #[] #[]) := by kernel_rfl
theorem nextReturned : Extern.next FmtCalls.returnedRow = some (FmtCalls.returned #[] #[]) := by kernel_rfl
theorem fmt0 : FmtStop.printed? ⟨#[37, 119, 58, 32, 37, 118, 32, 119, 104, 101, 114, 101, 32, 105, 116, 32, 104, 97, 115, 32, 110, 111, 32, 112, 108, 97, 99, 101]⟩ 2 = some [(0, 119, false), (1, 118, false)] := by kernel_rfl
theorem fmt0r (w : World) : (FmtDoors.printed ⟨#[37, 119, 58, 32, 37, 118, 32, 119, 104, 101, 114, 101, 32, 105, 116, 32, 104, 97, 115, 32, 110, 111, 32, 112, 108, 97, 99, 101]⟩ 2).run Tryf.prog w = .ok [(0, 119, false), (1, 118, false)] w := by kernel_rfl
theorem fmt1 : FmtStop.printed? ⟨#[37, 119, 58, 32, 37, 118, 32, 119, 104, 101, 114, 101, 32, 105, 116, 32, 104, 97, 115, 32, 110, 111, 32, 112, 108, 97, 99, 101]⟩ 0 = some [] := by kernel_rfl
theorem fmt1r (w : World) : (FmtDoors.printed ⟨#[37, 119, 58, 32, 37, 118, 32, 119, 104, 101, 114, 101, 32, 105, 116, 32, 104, 97, 115, 32, 110, 111, 32, 112, 108, 97, 99, 101]⟩ 0).run Tryf.prog w = .ok [] w := by kernel_rfl
theorem fmt2 : FmtStop.printed? ⟨#[112, 97, 99, 107, 101, 116, 84, 121, 112, 101, 40, 37, 100, 41]⟩ 1 = some [(0, 100, false)] := by kernel_rfl
theorem fmt2r (w : World) : (FmtDoors.printed ⟨#[112, 97, 99, 107, 101, 116, 84, 121, 112, 101, 40, 37, 100, 41]⟩ 1).run Tryf.prog w = .ok [(0, 100, false)] w := by kernel_rfl
theorem fmt3 : FmtStop.printed? ⟨#[112, 97, 99, 107, 101, 116, 84, 121, 112, 101, 40, 37, 100, 41]⟩ 0 = some [] := by kernel_rfl
theorem fmt3r (w : World) : (FmtDoors.printed ⟨#[112, 97, 99, 107, 101, 116, 84, 121, 112, 101, 40, 37, 100, 41]⟩ 0).run Tryf.prog w = .ok [] w := by kernel_rfl
-- type 29: quorum.packetType: its String() is called under v
theorem act29_118w (name : String) (x : Value) (w : World) : (FmtCalls.act name true 118 false (.iface 29 x)).run Tryf.prog w = .ok (.call false) w := by kernel_rfl
theorem isString29 (w : World) : (FmtDoors.textMethod 29 "String").run Tryf.prog w = .ok true w := by kernel_rfl
theorem invokeString29 (x : Value) (w : World) : (invoke (.fn (.method "String") #[]) #[.iface 29 x]).run Tryf.prog w = .ok (.enter 9 #[x]) w := by kernel_rfl
theorem str29 (w : World) : (typeStr 29).run Tryf.prog w = .ok "quorum.packetType" w := by kernel_rfl
-- type 21: int32, under d in Sprintf
def shape21 : List UInt8 := [4, 5, 0, 0, 0, 0, 0, 0, 0, 105, 110, 116, 51, 50]
theorem op21_100 (name : String) (x : Int) (w : World) : (FmtStop.operand name false 100 false (.iface 21 (.int .i32 x))).run Tryf.prog w = .ok (shape21, Go.Extern.Stop.digits 8 (x % 2 ^ 64).toNat) w := by kernel_rfl
-- type 58: the pointer to errors.errorString
theorem ptr58 (w : World) : (FmtStop.ptrTo "errors.errorString").run Tryf.prog w = .ok 58 w := by kernel_rfl
theorem elem58 (w : World) : (elemOf 58).run Tryf.prog w = .ok 60 w := by kernel_rfl
theorem isError58 (w : World) : (FmtDoors.textMethod 58 "Error").run Tryf.prog w = .ok true w := by kernel_rfl
/-- The name of type 58, as the given row bears it. -/
def errName : String := match (Rows.laid_example_com_quorumtree_quorumtree_internal_quorum_errProtocol : DataW Unit) with | .iface n _ => n | _ => ""
def plain58 : List UInt8 := 14 :: FmtStop.pack errName.toUTF8.data.toList
theorem opPlain58_119w (name : String) (a : Addr) (s : ByteArray) (w : World) (hc : w.cell? a = some (.string s)) :
    (FmtStop.operand name true 119 false (.iface 58 (.pointer (some a)))).run Tryf.prog w = .ok (plain58, s.data.toList) w := by
  have h1 : (typeStr 58).run Tryf.prog w = .ok errName w := by kernel_rfl
  have d2 : Tryf.t58.desc = .pointer 60 := rfl
  have d3 : Tryf.t60.desc = .named "errors.errorString" 59 := rfl
  simp [FmtStop.operand, h1, d2, d3, run_load, hc, plain58]
theorem actPlain58_119w (name : String) (x : Value) (w : World) : (FmtCalls.act name true 119 false (.iface 58 x)).run Tryf.prog w = .ok (.closed true) w := by kernel_rfl
-- type 46: the pointer to fmt.wrapError
theorem ptr46 (w : World) : (FmtStop.ptrTo "fmt.wrapError").run Tryf.prog w = .ok 46 w := by kernel_rfl
theorem elem46 (w : World) : (elemOf 46).run Tryf.prog w = .ok 85 w := by kernel_rfl
theorem isError46 (w : World) : (FmtDoors.textMethod 46 "Error").run Tryf.prog w = .ok true w := by kernel_rfl
end Go.Proofs.Qxb6613921aFmt
