/-
  OWN TEXT. The closed facts for a walk over fmt's stopped front, at this seat's translation (after the kit's worked facts).
-/
import Derived.Test.YbulkbcbiFmtRows
import Derived.Stop.CallBack
import Derived.Stop.IfaceNil
import GoSem.ClaimData
namespace Go.Proofs
open Go.Extern.Stop Go.Stop Go.Extern
theorem Ybaf.call8 (args : Array Value) (w : World) : (callFunc 8 args).run Ybaf.prog w = ((FmtStop.errorf #[9, 33] #[27] args).run Ybaf.prog w).andThen fun v w' => .ok (.value v) w' :=
  run_callFunc_extern Ybaf.func8 (by kernel_rfl) (by kernel_rfl) (by kernel_rfl) (by kernel_rfl) args w
theorem Ybaf.guard (name : String) (w : World) : (FmtStop.guard name).run Ybaf.prog w = .ok () w := by kernel_rfl
theorem Ybaf.fmt0 : FmtStop.printed? ⟨#[97, 32, 37, 115, 32, 108, 105, 110, 101, 32, 116, 97, 107, 101, 115, 32, 110, 111, 32, 37, 115, 44, 32, 102, 111, 117, 110, 100, 32, 37, 113]⟩ 3 = some [(0, 115, false), (1, 115, false), (2, 113, false)] := by kernel_rfl
theorem Ybaf.fmt0r (w : World) : (FmtDoors.printed ⟨#[97, 32, 37, 115, 32, 108, 105, 110, 101, 32, 116, 97, 107, 101, 115, 32, 110, 111, 32, 37, 115, 44, 32, 102, 111, 117, 110, 100, 32, 37, 113]⟩ 3).run Ybaf.prog w = .ok [(0, 115, false), (1, 115, false), (2, 113, false)] w := by kernel_rfl
def Ybaf.shape9 : List UInt8 := [12, 6, 0, 0, 0, 0, 0, 0, 0, 115, 116, 114, 105, 110, 103]
def Ybaf.shape29 : List UInt8 := 12 :: FmtStop.pack [106, 111, 117, 114, 110, 97, 108, 46, 75, 105, 110, 100]
theorem Ybaf.op29_115 (name : String) (x : ByteArray) (w : World) : (FmtStop.operand name true 115 false (.iface 29 (.string x))).run Ybaf.prog w = .ok (Ybaf.shape29, FmtStop.pack x.data.toList) w := by kernel_rfl
theorem Ybaf.op9_115 (name : String) (x : ByteArray) (w : World) : (FmtStop.operand name true 115 false (.iface 9 (.string x))).run Ybaf.prog w = .ok (Ybaf.shape9, FmtStop.pack x.data.toList) w := by kernel_rfl
theorem Ybaf.op9_113 (name : String) (x : ByteArray) (w : World) : (FmtStop.operand name true 113 false (.iface 9 (.string x))).run Ybaf.prog w = .ok (Ybaf.shape9, FmtStop.pack x.data.toList) w := by kernel_rfl
theorem Ybaf.ptr36 (w : World) : (FmtStop.ptrTo "errors.errorString").run Ybaf.prog w = .ok 36 w := by kernel_rfl
theorem Ybaf.elem36 (w : World) : (elemOf 36).run Ybaf.prog w = .ok 38 w := by kernel_rfl
theorem Ybaf.isError36 (w : World) : (FmtDoors.textMethod 36 "Error").run Ybaf.prog w = .ok true w := by kernel_rfl
end Go.Proofs
