import Derived.Test.YbulkcyjoFmtProg
import Derived.Stop.CallBack
import Derived.Stop.IfaceNil
import GoSem.ClaimData
namespace Go.Proofs
open Go.Extern.Stop Go.Stop Go.Extern

theorem Ybaf.call7 (args : Array Value) (w : World) : (callFunc 7 args).run Ybaf.prog w = ((FmtStop.sprintf #[9, 45] #[9] args).run Ybaf.prog w).andThen fun v w' => .ok (.value v) w' :=
  run_callFunc_extern Ybaf.func7 (by kernel_rfl) (by kernel_rfl) (by kernel_rfl) (by kernel_rfl) args w

theorem Ybaf.guard (name : String) (w : World) : (FmtStop.guard name).run Ybaf.prog w = .ok () w := by kernel_rfl

theorem Ybaf.fmt2 : FmtStop.printed? ⟨#[37, 115, 37, 100, 46, 37, 48, 50, 100]⟩ 3 = some [(0, 115, false), (1, 100, false), (2, 100, false)] := by kernel_rfl
theorem Ybaf.fmt2r (w : World) : (FmtDoors.printed ⟨#[37, 115, 37, 100, 46, 37, 48, 50, 100]⟩ 3).run Ybaf.prog w = .ok [(0, 115, false), (1, 100, false), (2, 100, false)] w := by kernel_rfl

theorem Ybaf.name23 : Ybaf.prog.typeName? 3 23 = some "uint64" := by kernel_rfl
def Ybaf.shape23 : List UInt8 := [9, 6, 0, 0, 0, 0, 0, 0, 0, 117, 105, 110, 116, 54, 52]
theorem Ybaf.op23_100 (name : String) (x : Int) (w : World) : (FmtStop.operand name false 100 false (.iface 23 (.int .u64 x))).run Ybaf.prog w = .ok (Ybaf.shape23, Go.Extern.Stop.digits 8 (x % 2 ^ 64).toNat) w := by kernel_rfl
theorem Ybaf.name9 : Ybaf.prog.typeName? 3 9 = some "string" := by kernel_rfl
def Ybaf.shape9 : List UInt8 := [12, 6, 0, 0, 0, 0, 0, 0, 0, 115, 116, 114, 105, 110, 103]
theorem Ybaf.op9_115 (name : String) (x : ByteArray) (w : World) : (FmtStop.operand name false 115 false (.iface 9 (.string x))).run Ybaf.prog w = .ok (Ybaf.shape9, FmtStop.pack x.data.toList) w := by kernel_rfl
end Go.Proofs
