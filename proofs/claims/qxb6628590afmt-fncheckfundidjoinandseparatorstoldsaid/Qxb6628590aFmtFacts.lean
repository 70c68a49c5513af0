/-
  CLOSED FACTS over the dump of seat b6628590aF, for a walk over fmt's stopped 'errorf': each by the kernel's own evaluation. (After the guide's worked Check family, at this dump's numbers.)
-/
import Derived.Test.Qxb6628590aFmtRows
import Derived.Stop.CallBack
import Derived.Stop.IfaceNil
import GoSem.ClaimData
namespace Go.Proofs.Qxb6628590aFmt
open Go.Extern.Stop Go.Stop Go.Extern

theorem Tryf.call11 (args : Array Value) (w : World) : (callFunc 11 args).run Tryf.prog w = ((FmtStop.errorf #[9, 32] #[25] args).run Tryf.prog w).andThen fun v w' => .ok (.value v) w' :=
  run_callFunc_extern Tryf.func11 (by kernel_rfl) (by kernel_rfl) (by kernel_rfl) (by kernel_rfl) args w

theorem Tryf.guard (name : String) (w : World) : (FmtStop.guard name).run Tryf.prog w = .ok () w := by kernel_rfl

/-- The one format on the road: it asks for its one operand under the verb q. -/
theorem Tryf.fmt0 : FmtStop.printed? ⟨#[37, 113, 32, 104, 97, 115, 32, 97, 32, 99, 104, 97, 114, 97, 99, 116, 101, 114, 32, 111, 116, 104, 101, 114, 32, 116, 104, 97, 110, 32, 97, 110, 32, 65, 83, 67, 73, 73, 32, 108, 101, 116, 116, 101, 114, 44, 32, 97, 32, 100, 105, 103, 105, 116, 44, 32, 45, 32, 111, 114, 32, 95]⟩ 1 = some [(0, 113, false)] := by kernel_rfl
theorem Tryf.fmt0r (w : World) : (FmtDoors.printed ⟨#[37, 113, 32, 104, 97, 115, 32, 97, 32, 99, 104, 97, 114, 97, 99, 116, 101, 114, 32, 111, 116, 104, 101, 114, 32, 116, 104, 97, 110, 32, 97, 110, 32, 65, 83, 67, 73, 73, 32, 108, 101, 116, 116, 101, 114, 44, 32, 97, 32, 100, 105, 103, 105, 116, 44, 32, 45, 32, 111, 114, 32, 95]⟩ 1).run Tryf.prog w = .ok [(0, 113, false)] w := by kernel_rfl

def Tryf.shape9 : List UInt8 := [12, 6, 0, 0, 0, 0, 0, 0, 0, 115, 116, 114, 105, 110, 103]
theorem Tryf.op9_113 (name : String) (x : ByteArray) (w : World) : (FmtStop.operand name false 113 false (.iface 9 (.string x))).run Tryf.prog w = .ok (Tryf.shape9, FmtStop.pack x.data.toList) w := by kernel_rfl
theorem Tryf.op9_113w (name : String) (x : ByteArray) (w : World) : (FmtStop.operand name true 113 false (.iface 9 (.string x))).run Tryf.prog w = .ok (Tryf.shape9, FmtStop.pack x.data.toList) w := by kernel_rfl
theorem Tryf.ptr29 (w : World) : (FmtStop.ptrTo "errors.errorString").run Tryf.prog w = .ok 29 w := by kernel_rfl
theorem Tryf.elem29 (w : World) : (elemOf 29).run Tryf.prog w = .ok 31 w := by kernel_rfl
theorem Tryf.isError29 (w : World) : (FmtDoors.textMethod 29 "Error").run Tryf.prog w = .ok true w := by kernel_rfl

end Go.Proofs.Qxb6628590aFmt
