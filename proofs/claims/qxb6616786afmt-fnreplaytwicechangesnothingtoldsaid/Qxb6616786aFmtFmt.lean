/-
  The closed facts for a walk over fmt.errorf in this program's cut (after the guide's worked text CheckFmt): each by the kernel's own evaluation.
-/
import Derived.Test.Qxb6616786aFmtRead
import Derived.Stop.CallBack
import Derived.Stop.IfaceNil
import GoSem.ClaimData
namespace Go.Proofs
open Go.Extern.Stop Go.Stop Go.Extern

-- fmt.errorf: function 26: a plain stop
@[go_sem] theorem Tryf.call26 (args : Array Value) (w : World) : (callFunc 26 args).run Tryf.prog w = ((FmtStop.errorf #[9, 89] #[28] args).run Tryf.prog w).andThen fun v w' => .ok (.value v) w' :=
  run_callFunc_extern Tryf.func26 (by kernel_rfl) (by kernel_rfl) (by kernel_rfl) (by kernel_rfl) args w

@[go_sem] theorem Tryf.guard (name : String) (w : World) : (FmtStop.guard name).run Tryf.prog w = .ok () w := by kernel_rfl

@[go_sem] theorem Tryf.fmt0 : FmtStop.printed? ⟨#[111, 112, 101, 114, 97, 116, 105, 111, 110, 32, 37, 113, 32, 99, 97, 110, 110, 111, 116, 32, 98, 101, 32, 105, 116, 115, 32, 111, 119, 110, 32, 112, 97, 114, 101, 110, 116]⟩ 1 = some [(0, 113, false)] := by kernel_rfl
@[go_sem] theorem Tryf.fmt0r (w : World) : (FmtDoors.printed ⟨#[111, 112, 101, 114, 97, 116, 105, 111, 110, 32, 37, 113, 32, 99, 97, 110, 110, 111, 116, 32, 98, 101, 32, 105, 116, 115, 32, 111, 119, 110, 32, 112, 97, 114, 101, 110, 116]⟩ 1).run Tryf.prog w = .ok [(0, 113, false)] w := by kernel_rfl
@[go_sem] theorem Tryf.fmt1 : FmtStop.printed? ⟨#[111, 112, 101, 114, 97, 116, 105, 111, 110, 32, 37, 113, 32, 105, 115, 32, 97, 99, 116, 105, 118, 101, 32, 119, 105, 116, 104, 32, 110, 111, 32, 112, 97, 114, 101, 110, 116, 44, 32, 110, 111, 116, 32, 117, 110, 100, 101, 114, 32, 37, 113]⟩ 2 = some [(0, 113, false), (1, 113, false)] := by kernel_rfl
@[go_sem] theorem Tryf.fmt1r (w : World) : (FmtDoors.printed ⟨#[111, 112, 101, 114, 97, 116, 105, 111, 110, 32, 37, 113, 32, 105, 115, 32, 97, 99, 116, 105, 118, 101, 32, 119, 105, 116, 104, 32, 110, 111, 32, 112, 97, 114, 101, 110, 116, 44, 32, 110, 111, 116, 32, 117, 110, 100, 101, 114, 32, 37, 113]⟩ 2).run Tryf.prog w = .ok [(0, 113, false), (1, 113, false)] w := by kernel_rfl
@[go_sem] theorem Tryf.fmt2 : FmtStop.printed? ⟨#[111, 112, 101, 114, 97, 116, 105, 111, 110, 32, 37, 113, 32, 105, 115, 32, 97, 99, 116, 105, 118, 101, 32, 117, 110, 100, 101, 114, 32, 37, 113, 44, 32, 110, 111, 116, 32, 37, 113]⟩ 3 = some [(0, 113, false), (1, 113, false), (2, 113, false)] := by kernel_rfl
@[go_sem] theorem Tryf.fmt2r (w : World) : (FmtDoors.printed ⟨#[111, 112, 101, 114, 97, 116, 105, 111, 110, 32, 37, 113, 32, 105, 115, 32, 97, 99, 116, 105, 118, 101, 32, 117, 110, 100, 101, 114, 32, 37, 113, 44, 32, 110, 111, 116, 32, 37, 113]⟩ 3).run Tryf.prog w = .ok [(0, 113, false), (1, 113, false), (2, 113, false)] w := by kernel_rfl

def Tryf.shape9 : List UInt8 := [12, 6, 0, 0, 0, 0, 0, 0, 0, 115, 116, 114, 105, 110, 103]
@[go_sem] theorem Tryf.op9_113 (name : String) (x : ByteArray) (w : World) : (FmtStop.operand name false 113 false (.iface 9 (.string x))).run Tryf.prog w = .ok (Tryf.shape9, FmtStop.pack x.data.toList) w := by kernel_rfl
@[go_sem] theorem Tryf.op9_113w (name : String) (x : ByteArray) (w : World) : (FmtStop.operand name true 113 false (.iface 9 (.string x))).run Tryf.prog w = .ok (Tryf.shape9, FmtStop.pack x.data.toList) w := by kernel_rfl

@[go_sem] theorem Tryf.ptrES (w : World) : (FmtStop.ptrTo "errors.errorString").run Tryf.prog w = .ok 92 w := by kernel_rfl
@[go_sem] theorem Tryf.elemES (w : World) : (elemOf 92).run Tryf.prog w = .ok 94 w := by kernel_rfl
end Go.Proofs
