/-
  THE CLOSED FACTS FOR A WALK OVER fmt.errorf IN THIS DUMP, typed for this dump's numbers.
-/
import Derived.Test.YbulkjsmFmtRows
import Derived.Stop.CallBack
import Derived.Stop.IfaceNil
import GoSem.ClaimData
namespace Go.Proofs.YbulkjsmFmt
open Go.Extern.Stop Go.Stop Go.Extern

theorem call15 (args : Array Value) (w : World) : (callFunc 15 args).run Ybaf.prog w = ((FmtStop.errorf #[9, 67] #[53] args).run Ybaf.prog w).andThen fun v w' => .ok (.value v) w' :=
  run_callFunc_extern Ybaf.func15 (by kernel_rfl) (by kernel_rfl) (by kernel_rfl) (by kernel_rfl) args w
theorem fguard (name : String) (w : World) : (FmtStop.guard name).run Ybaf.prog w = .ok () w := by kernel_rfl
theorem fmt0 : FmtStop.printed? ⟨#[99, 97, 108, 108, 32, 37, 100, 32, 105, 115, 32, 110, 111, 116, 32, 97, 32, 99, 97, 108, 108, 32, 110, 117, 109, 98, 101, 114, 32, 102, 114, 111, 109, 32, 49, 32, 116, 111, 32, 37, 100]⟩ 2 = some [(0, 100, false), (1, 100, false)] := by kernel_rfl
theorem fmt0r (w : World) : (FmtDoors.printed ⟨#[99, 97, 108, 108, 32, 37, 100, 32, 105, 115, 32, 110, 111, 116, 32, 97, 32, 99, 97, 108, 108, 32, 110, 117, 109, 98, 101, 114, 32, 102, 114, 111, 109, 32, 49, 32, 116, 111, 32, 37, 100]⟩ 2).run Ybaf.prog w = .ok [(0, 100, false), (1, 100, false)] w := by kernel_rfl
theorem fmt1 : FmtStop.printed? ⟨#[115, 117, 98, 97, 100, 100, 114, 101, 115, 115, 32, 111, 102, 32, 37, 100, 32, 111, 99, 116, 101, 116, 115, 32, 105, 115, 32, 110, 111, 116, 32, 49, 32, 116, 111, 32, 37, 100, 32, 111, 99, 116, 101, 116, 115]⟩ 2 = some [(0, 100, false), (1, 100, false)] := by kernel_rfl
theorem fmt1r (w : World) : (FmtDoors.printed ⟨#[115, 117, 98, 97, 100, 100, 114, 101, 115, 115, 32, 111, 102, 32, 37, 100, 32, 111, 99, 116, 101, 116, 115, 32, 105, 115, 32, 110, 111, 116, 32, 49, 32, 116, 111, 32, 37, 100, 32, 111, 99, 116, 101, 116, 115]⟩ 2).run Ybaf.prog w = .ok [(0, 100, false), (1, 100, false)] w := by kernel_rfl
def shape3 : List UInt8 := [5, 3, 0, 0, 0, 0, 0, 0, 0, 105, 110, 116]
theorem op3_118 (name : String) (x : Int) (w : World) : (FmtStop.operand name false 118 false (.iface 3 (.int .i64 x))).run Ybaf.prog w = .ok (shape3, Go.Extern.Stop.digits 8 (x % 2 ^ 64).toNat) w := by kernel_rfl
theorem op3_100 (name : String) (x : Int) (w : World) : (FmtStop.operand name false 100 false (.iface 3 (.int .i64 x))).run Ybaf.prog w = .ok (shape3, Go.Extern.Stop.digits 8 (x % 2 ^ 64).toNat) w := by kernel_rfl
theorem op3_118w (name : String) (x : Int) (w : World) : (FmtStop.operand name true 118 false (.iface 3 (.int .i64 x))).run Ybaf.prog w = .ok (shape3, Go.Extern.Stop.digits 8 (x % 2 ^ 64).toNat) w := by kernel_rfl
theorem op3_100w (name : String) (x : Int) (w : World) : (FmtStop.operand name true 100 false (.iface 3 (.int .i64 x))).run Ybaf.prog w = .ok (shape3, Go.Extern.Stop.digits 8 (x % 2 ^ 64).toNat) w := by kernel_rfl
theorem strict3 (name : String) (x : Int) (w : World) : (FmtStop.strict name (.iface 3 (.int .i64 x))).run Ybaf.prog w = .ok (shape3, Go.Extern.Stop.digits 8 (x % 2 ^ 64).toNat) w := by kernel_rfl
theorem ptr76 (w : World) : (FmtStop.ptrTo "errors.errorString").run Ybaf.prog w = .ok 76 w := by kernel_rfl
theorem elem76 (w : World) : (elemOf 76).run Ybaf.prog w = .ok 78 w := by kernel_rfl
theorem isError76 (w : World) : (FmtDoors.textMethod 76 "Error").run Ybaf.prog w = .ok true w := by kernel_rfl
end Go.Proofs.YbulkjsmFmt
