/-
  The closed facts for a walk over fmt's two stopped fronts.
-/
import Derived.Test.YbulkbuigFmtRows
import Derived.Stop.CallBack
import Derived.Stop.IfaceNil
import GoSem.ClaimData
namespace Go.Proofs.YbulkbuigFmt
open Go.Extern.Stop Go.Stop Go.Extern

theorem call13 (args : Array Value) (w : World) : (callFunc 13 args).run Ybaf.prog w = ((FmtStop.sprintf #[9, 45] #[9] args).run Ybaf.prog w).andThen fun v w' => .ok (.value v) w' :=
  run_callFunc_extern Ybaf.func13 (by kernel_rfl) (by kernel_rfl) (by kernel_rfl) (by kernel_rfl) args w
theorem call17 (args : Array Value) (w : World) : (callFunc 17 args).run Ybaf.prog w = ((FmtStop.errorf #[9, 45] #[23] args).run Ybaf.prog w).andThen fun v w' => .ok (.value v) w' :=
  run_callFunc_extern Ybaf.func17 (by kernel_rfl) (by kernel_rfl) (by kernel_rfl) (by kernel_rfl) args w
theorem guard_ok (name : String) (w : World) : (FmtStop.guard name).run Ybaf.prog w = .ok () w := by kernel_rfl
theorem fmt0 : FmtStop.printed? ⟨#[37, 100, 32, 37, 115, 32, 97, 114, 101, 32, 110, 97, 109, 101, 100, 44, 32, 97, 98, 111, 118, 101, 32, 116, 104, 101, 32, 108, 105, 109, 105, 116, 32, 111, 102, 32, 37, 100]⟩ 3 = some [(0, 100, false), (1, 115, false), (2, 100, false)] := by kernel_rfl
theorem fmt1r (w : World) : (FmtDoors.printed ⟨#[37, 113, 32, 105, 115, 32, 110, 111, 116, 32, 97, 110, 32, 105, 100, 58, 32, 105, 100, 115, 32, 97, 114, 101, 32, 105, 110, 116, 54, 52, 115, 32, 105, 110, 32, 100, 101, 99, 105, 109, 97, 108, 44, 32, 119, 105, 116, 104, 32, 110, 111, 32, 43, 32, 115, 105, 103, 110, 32, 111, 114, 32, 108, 101, 97, 100, 105, 110, 103, 32, 48]⟩ 1).run Ybaf.prog w = .ok [(0, 113, false)] w := by kernel_rfl
def shape3 : List UInt8 := [5, 3, 0, 0, 0, 0, 0, 0, 0, 105, 110, 116]
def shape9 : List UInt8 := [12, 6, 0, 0, 0, 0, 0, 0, 0, 115, 116, 114, 105, 110, 103]
theorem op3_100 (name : String) (x : Int) (w : World) : (FmtStop.operand name false 100 false (.iface 3 (.int .i64 x))).run Ybaf.prog w = .ok (shape3, Go.Extern.Stop.digits 8 (x % 2 ^ 64).toNat) w := by kernel_rfl
theorem op9_115 (name : String) (x : ByteArray) (w : World) : (FmtStop.operand name false 115 false (.iface 9 (.string x))).run Ybaf.prog w = .ok (shape9, FmtStop.pack x.data.toList) w := by kernel_rfl
theorem op9_113w (name : String) (x : ByteArray) (w : World) : (FmtStop.operand name true 113 false (.iface 9 (.string x))).run Ybaf.prog w = .ok (shape9, FmtStop.pack x.data.toList) w := by kernel_rfl
theorem ptr60 (w : World) : (FmtStop.ptrTo "errors.errorString").run Ybaf.prog w = .ok 60 w := by kernel_rfl
theorem elem60 (w : World) : (elemOf 60).run Ybaf.prog w = .ok 62 w := by kernel_rfl
end Go.Proofs.YbulkbuigFmt
