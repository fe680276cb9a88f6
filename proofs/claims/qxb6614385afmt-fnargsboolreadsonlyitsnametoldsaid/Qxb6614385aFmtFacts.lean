/-
  Seat b6614385aF (cormorant, internal/tool): the closed facts of this dump that a walk over fmt.Errorf wants.
-/
import Derived.Test.Qxb6614385aFmtProg
import Derived.Stop.CallBack
import Derived.Stop.IfaceNil
import GoSem.ClaimData
namespace Go.Proofs
open Go.Extern.Stop Go.Stop Go.Extern

theorem Tryf.call26 (args : Array Value) (w : World) : (callFunc 26 args).run Tryf.prog w = ((FmtStop.errorf #[9, 54] #[42] args).run Tryf.prog w).andThen fun v w' => .ok (.value v) w' :=
  run_callFunc_extern Tryf.func26 (by kernel_rfl) (by kernel_rfl) (by kernel_rfl) (by kernel_rfl) args w

theorem Tryf.guard (name : String) (w : World) : (FmtStop.guard name).run Tryf.prog w = .ok () w := by kernel_rfl

-- "argument %s is not a boolean", 1 operand
theorem Tryf.fmt0 : FmtStop.printed? ⟨#[97, 114, 103, 117, 109, 101, 110, 116, 32, 37, 115, 32, 105, 115, 32, 110, 111, 116, 32, 97, 32, 98, 111, 111, 108, 101, 97, 110]⟩ 1 = some [(0, 115, false)] := by kernel_rfl
theorem Tryf.fmt0r (w : World) : (FmtDoors.printed ⟨#[97, 114, 103, 117, 109, 101, 110, 116, 32, 37, 115, 32, 105, 115, 32, 110, 111, 116, 32, 97, 32, 98, 111, 111, 108, 101, 97, 110]⟩ 1).run Tryf.prog w = .ok [(0, 115, false)] w := by kernel_rfl

def Tryf.shape9 : List UInt8 := [12, 6, 0, 0, 0, 0, 0, 0, 0, 115, 116, 114, 105, 110, 103]
theorem Tryf.op9_115 (name : String) (x : ByteArray) (w : World) : (FmtStop.operand name false 115 false (.iface 9 (.string x))).run Tryf.prog w = .ok (Tryf.shape9, FmtStop.pack x.data.toList) w := by kernel_rfl
theorem Tryf.op9_115w (name : String) (x : ByteArray) (w : World) : (FmtStop.operand name true 115 false (.iface 9 (.string x))).run Tryf.prog w = .ok (Tryf.shape9, FmtStop.pack x.data.toList) w := by kernel_rfl
theorem Tryf.strict9 (name : String) (x : ByteArray) (w : World) : (FmtStop.strict name (.iface 9 (.string x))).run Tryf.prog w = .ok (Tryf.shape9, FmtStop.pack x.data.toList) w := by kernel_rfl

theorem Tryf.ptr57 (w : World) : (FmtStop.ptrTo "errors.errorString").run Tryf.prog w = .ok 57 w := by kernel_rfl
theorem Tryf.elem57 (w : World) : (elemOf 57).run Tryf.prog w = .ok 59 w := by kernel_rfl
theorem Tryf.isError57' (w : World) : (FmtDoors.textMethod 57 "Error").run Tryf.prog w = .ok true w := by kernel_rfl

end Go.Proofs
