/-
  The closed facts for a walk over fmt's stopped front in this dump: each by the kernel's own evaluation.
-/
import Derived.Test.YbulkvxqFmtChecked
import Derived.Stop.CallBack
import Derived.Stop.IfaceNil
import GoSem.ClaimData
import Derived.KernelRfl
namespace Go.Proofs.YbulkvxqFmt
open Go.Extern.Stop Go.Stop Go.Extern

-- fmt.Sprintf: function 7: a stop that calls its operands' methods
theorem call7 (args : Array Value) (w : World) : (callFunc 7 args).run Ybaf.prog w = (FmtCalls.sprintf #[9, 32] #[9] args).run Ybaf.prog w :=
  run_callFunc_next Ybaf.func7 (by kernel_rfl) (by kernel_rfl) (by kernel_rfl) args w
theorem guard (name : String) (w : World) : (FmtStop.guard name).run Ybaf.prog w = .ok () w := by kernel_rfl
theorem nextTurns : Extern.next FmtCalls.turnsRow = some (FmtCalls.begun #[] #[]) := by kernel_rfl
theorem nextReturned : Extern.next FmtCalls.returnedRow = some (FmtCalls.returned #[] #[]) := by kernel_rfl

-- the one format, its three operands under 'd'
theorem fmt0 : FmtStop.printed? ⟨#[83, 101, 99, 114, 101, 116, 32, 65, 71, 73, 32, 116, 97, 107, 101, 115, 32, 37, 100, 32, 116, 111, 32, 37, 100, 32, 115, 101, 97, 116, 115, 44, 32, 110, 111, 116, 32, 37, 100]⟩ 3 = some [(0, 100, false), (1, 100, false), (2, 100, false)] := by kernel_rfl
theorem fmt0r (w : World) : (FmtDoors.printed ⟨#[83, 101, 99, 114, 101, 116, 32, 65, 71, 73, 32, 116, 97, 107, 101, 115, 32, 37, 100, 32, 116, 111, 32, 37, 100, 32, 115, 101, 97, 116, 115, 44, 32, 110, 111, 116, 32, 37, 100]⟩ 3).run Ybaf.prog w = .ok [(0, 100, false), (1, 100, false), (2, 100, false)] w := by kernel_rfl

-- type 3: int
def shape3 : List UInt8 := [5, 3, 0, 0, 0, 0, 0, 0, 0, 105, 110, 116]
theorem act3_100 (name : String) (x : Value) (w : World) : (FmtCalls.act name false 100 false (.iface 3 x)).run Ybaf.prog w = .ok (.closed false) w := by kernel_rfl
theorem op3_100 (name : String) (x : Int) (w : World) : (FmtStop.operand name false 100 false (.iface 3 (.int .i64 x))).run Ybaf.prog w = .ok (shape3, Go.Extern.Stop.digits 8 (x % 2 ^ 64).toNat) w := by kernel_rfl
end Go.Proofs.YbulkvxqFmt
