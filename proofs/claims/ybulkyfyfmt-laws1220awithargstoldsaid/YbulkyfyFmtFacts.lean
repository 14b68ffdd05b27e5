/-
  THE CLOSED FACTS for a walk over fmt.Sprint's calling stop (function 9) at an int64 operand: each by the kernel's own evaluation.
-/
import Derived.Test.YbulkyfyFmtRows
import Derived.Stop.CallBack
import Derived.Stop.IfaceNil
import GoSem.ClaimData
namespace Go.Proofs.YbulkyfyFmt
open Go.Extern.Stop Go.Stop Go.Extern

theorem Ybaf.call9 (args : Array Value) (w : World) : (callFunc 9 args).run Ybaf.prog w = (FmtCalls.sprint 1 #[63] #[9] args).run Ybaf.prog w :=
  run_callFunc_next Ybaf.func9 (by kernel_rfl) (by kernel_rfl) (by kernel_rfl) args w
theorem Ybaf.guard (name : String) (w : World) : (FmtStop.guard name).run Ybaf.prog w = .ok () w := by kernel_rfl
theorem Ybaf.nextTurns : Extern.next FmtCalls.turnsRow = some (FmtCalls.begun #[] #[]) := by kernel_rfl
def Ybaf.shape2 : List UInt8 := [5, 5, 0, 0, 0, 0, 0, 0, 0, 105, 110, 116, 54, 52]
theorem Ybaf.act2_118 (name : String) (x : Value) (w : World) : (FmtCalls.act name false 118 false (.iface 2 x)).run Ybaf.prog w = .ok (.closed false) w := by kernel_rfl
theorem Ybaf.op2_118 (name : String) (x : Int) (w : World) : (FmtStop.operand name false 118 false (.iface 2 (.int .i64 x))).run Ybaf.prog w = .ok (Ybaf.shape2, Go.Extern.Stop.digits 8 (x % 2 ^ 64).toNat) w := by kernel_rfl

end Go.Proofs.YbulkyfyFmt
