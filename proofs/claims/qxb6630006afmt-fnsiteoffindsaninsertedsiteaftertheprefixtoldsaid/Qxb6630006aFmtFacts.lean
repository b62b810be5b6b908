import Derived.Test.Qxb6630006aFmtProg
import Derived.Stop.CallBack
import Derived.Stop.IfaceNil
import GoSem.ClaimData
namespace Go.Proofs
open Go.Extern.Stop Go.Stop Go.Extern

-- the closed facts for the walk over fmt.errorf (function 20), each by the kernel
@[go_sem] theorem Tryf.call20 (args : Array Value) (w : World) : (callFunc 20 args).run Tryf.prog w = ((FmtStop.errorf #[9, 56] #[42] args).run Tryf.prog w).andThen fun v w' => .ok (.value v) w' :=
  run_callFunc_extern Tryf.func20 (by kernel_rfl) (by kernel_rfl) (by kernel_rfl) (by kernel_rfl) args w
@[go_sem] theorem Tryf.guard (name : String) (w : World) : (FmtStop.guard name).run Tryf.prog w = .ok () w := by kernel_rfl
@[go_sem] theorem Tryf.fmt0 : FmtStop.printed? ⟨#[116, 104, 101, 32, 99, 108, 117, 115, 116, 101, 114, 32, 105, 110, 32, 37, 115, 32, 104, 97, 115, 32, 110, 111, 32, 115, 101, 114, 118, 101, 114, 32, 37, 113]⟩ 2 = some [(0, 115, false), (1, 113, false)] := by kernel_rfl
@[go_sem] theorem Tryf.fmt0r (w : World) : (FmtDoors.printed ⟨#[116, 104, 101, 32, 99, 108, 117, 115, 116, 101, 114, 32, 105, 110, 32, 37, 115, 32, 104, 97, 115, 32, 110, 111, 32, 115, 101, 114, 118, 101, 114, 32, 37, 113]⟩ 2).run Tryf.prog w = .ok [(0, 115, false), (1, 113, false)] w := by kernel_rfl
def Tryf.shape9 : List UInt8 := [12, 6, 0, 0, 0, 0, 0, 0, 0, 115, 116, 114, 105, 110, 103]
@[go_sem] theorem Tryf.op9_115 (name : String) (x : ByteArray) (w : World) : (FmtStop.operand name false 115 false (.iface 9 (.string x))).run Tryf.prog w = .ok (Tryf.shape9, FmtStop.pack x.data.toList) w := by kernel_rfl
@[go_sem] theorem Tryf.op9_113 (name : String) (x : ByteArray) (w : World) : (FmtStop.operand name false 113 false (.iface 9 (.string x))).run Tryf.prog w = .ok (Tryf.shape9, FmtStop.pack x.data.toList) w := by kernel_rfl
@[go_sem] theorem Tryf.op9_115w (name : String) (x : ByteArray) (w : World) : (FmtStop.operand name true 115 false (.iface 9 (.string x))).run Tryf.prog w = .ok (Tryf.shape9, FmtStop.pack x.data.toList) w := by kernel_rfl
@[go_sem] theorem Tryf.op9_113w (name : String) (x : ByteArray) (w : World) : (FmtStop.operand name true 113 false (.iface 9 (.string x))).run Tryf.prog w = .ok (Tryf.shape9, FmtStop.pack x.data.toList) w := by kernel_rfl
@[go_sem] theorem Tryf.strict9 (name : String) (x : ByteArray) (w : World) : (FmtStop.strict name (.iface 9 (.string x))).run Tryf.prog w = .ok (Tryf.shape9, FmtStop.pack x.data.toList) w := by kernel_rfl
@[go_sem] theorem Tryf.ptr59 (w : World) : (FmtStop.ptrTo "errors.errorString").run Tryf.prog w = .ok 59 w := by kernel_rfl
@[go_sem] theorem Tryf.elem59 (w : World) : (elemOf 59).run Tryf.prog w = .ok 61 w := by kernel_rfl

end Go.Proofs
