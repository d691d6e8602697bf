import Derived.Test.YbulkbyieFmtProg
import Derived.Stop.CallBack
import Derived.Stop.IfaceNil
import GoSem.ClaimData
namespace Go.Proofs.YbulkbyieFmt
open Go.Extern.Stop Go.Stop Go.Extern
theorem call17 (args : Array Value) (w : World) : (callFunc 17 args).run Ybaf.prog w = ((FmtStop.errorf #[9, 41] #[25] args).run Ybaf.prog w).andThen fun v w' => .ok (.value v) w' :=
  run_callFunc_extern Ybaf.func17 (by kernel_rfl) (by kernel_rfl) (by kernel_rfl) (by kernel_rfl) args w
theorem guard (name : String) (w : World) : (FmtStop.guard name).run Ybaf.prog w = .ok () w := by kernel_rfl
theorem fmt0 : FmtStop.printed? ⟨#[119, 105, 114, 101, 58, 32, 37, 100, 32, 98, 121, 116, 101, 115, 32, 108, 101, 102, 116, 32, 111, 118, 101, 114]⟩ 1 = some [(0, 100, false)] := by kernel_rfl
theorem fmt0r (w : World) : (FmtDoors.printed ⟨#[119, 105, 114, 101, 58, 32, 37, 100, 32, 98, 121, 116, 101, 115, 32, 108, 101, 102, 116, 32, 111, 118, 101, 114]⟩ 1).run Ybaf.prog w = .ok [(0, 100, false)] w := by kernel_rfl
def shape3 : List UInt8 := [5, 3, 0, 0, 0, 0, 0, 0, 0, 105, 110, 116]
theorem op3_100 (name : String) (x : Int) (w : World) : (FmtStop.operand name false 100 false (.iface 3 (.int .i64 x))).run Ybaf.prog w = .ok (shape3, Go.Extern.Stop.digits 8 (x % 2 ^ 64).toNat) w := by kernel_rfl
theorem op3_100w (name : String) (x : Int) (w : World) : (FmtStop.operand name true 100 false (.iface 3 (.int .i64 x))).run Ybaf.prog w = .ok (shape3, Go.Extern.Stop.digits 8 (x % 2 ^ 64).toNat) w := by kernel_rfl
theorem ptr44 (w : World) : (FmtStop.ptrTo "errors.errorString").run Ybaf.prog w = .ok 44 w := by kernel_rfl
theorem elem44 (w : World) : (elemOf 44).run Ybaf.prog w = .ok 46 w := by kernel_rfl
theorem isError44 (w : World) : (FmtDoors.textMethod 44 "Error").run Ybaf.prog w = .ok true w := by kernel_rfl
end Go.Proofs.YbulkbyieFmt
