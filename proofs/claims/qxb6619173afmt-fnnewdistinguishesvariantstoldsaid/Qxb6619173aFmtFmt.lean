/-
  The closed facts for a walk over fmt.errorf in this program's cut (after the guide's worked text CheckFmt): each by the kernel's own evaluation.
-/
import Derived.Test.Qxb6619173aFmtProg
import Derived.Stop.CallBack
import Derived.Stop.IfaceNil
import GoSem.ClaimData
namespace Go.Proofs
open Go.Extern.Stop Go.Stop Go.Extern

-- fmt.errorf: function 9: a plain stop
@[go_sem] theorem Tryf.call9 (args : Array Value) (w : World) : (callFunc 9 args).run Tryf.prog w = ((FmtStop.errorf #[9, 32] #[27] args).run Tryf.prog w).andThen fun v w' => .ok (.value v) w' :=
  run_callFunc_extern Tryf.func9 (by kernel_rfl) (by kernel_rfl) (by kernel_rfl) (by kernel_rfl) args w

@[go_sem] theorem Tryf.guard (name : String) (w : World) : (FmtStop.guard name).run Tryf.prog w = .ok () w := by kernel_rfl

@[go_sem] theorem Tryf.fmt0 : FmtStop.printed? ⟨#[99, 104, 97, 105, 110, 101, 100, 32, 104, 97, 115, 32, 110, 111, 32, 118, 97, 114, 105, 97, 110, 116, 32, 37, 113]⟩ 1 = some [(0, 113, false)] := by kernel_rfl
@[go_sem] theorem Tryf.fmt0r (w : World) : (FmtDoors.printed ⟨#[99, 104, 97, 105, 110, 101, 100, 32, 104, 97, 115, 32, 110, 111, 32, 118, 97, 114, 105, 97, 110, 116, 32, 37, 113]⟩ 1).run Tryf.prog w = .ok [(0, 113, false)] w := by kernel_rfl

def Tryf.shape9 : List UInt8 := [12, 6, 0, 0, 0, 0, 0, 0, 0, 115, 116, 114, 105, 110, 103]
@[go_sem] theorem Tryf.op9_113 (name : String) (x : ByteArray) (w : World) : (FmtStop.operand name false 113 false (.iface 9 (.string x))).run Tryf.prog w = .ok (Tryf.shape9, FmtStop.pack x.data.toList) w := by kernel_rfl
@[go_sem] theorem Tryf.op9_113w (name : String) (x : ByteArray) (w : World) : (FmtStop.operand name true 113 false (.iface 9 (.string x))).run Tryf.prog w = .ok (Tryf.shape9, FmtStop.pack x.data.toList) w := by kernel_rfl

@[go_sem] theorem Tryf.ptr35 (w : World) : (FmtStop.ptrTo "errors.errorString").run Tryf.prog w = .ok 35 w := by kernel_rfl
@[go_sem] theorem Tryf.elem35 (w : World) : (elemOf 35).run Tryf.prog w = .ok 37 w := by kernel_rfl

end Go.Proofs
