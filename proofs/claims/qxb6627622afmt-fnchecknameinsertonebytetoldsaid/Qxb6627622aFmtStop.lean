/-
  THE CLOSED FACTS for a walk over fmt.errorf's stopped front, typed after the guide's generated texts (there is no generator here).
-/
import Derived.Test.Qxb6627622aFmtProg
import Derived.Stop.CallBack
import Derived.Stop.IfaceNil
import GoSem.ClaimData
namespace Go.Proofs
open Go.Extern.Stop Go.Stop Go.Extern

@[go_sem] theorem Tryf.call9 (args : Array Value) (w : World) : (callFunc 9 args).run Tryf.prog w = ((FmtStop.errorf #[9, 29] #[24] args).run Tryf.prog w).andThen fun v w' => .ok (.value v) w' :=
  run_callFunc_extern Tryf.func9 (by kernel_rfl) (by kernel_rfl) (by kernel_rfl) (by kernel_rfl) args w

@[go_sem] theorem Tryf.guard (name : String) (w : World) : (FmtStop.guard name).run Tryf.prog w = .ok () w := by kernel_rfl

@[go_sem] theorem Tryf.fmt0 : FmtStop.printed? ⟨#[37, 113, 32, 105, 115, 32, 110, 111, 116, 32, 97, 32, 112, 108, 97, 110, 32, 110, 97, 109, 101, 44, 32, 119, 104, 105, 99, 104, 32, 105, 115, 32, 49, 32, 116, 111, 32, 54, 52, 32, 65, 83, 67, 73, 73, 32, 108, 101, 116, 116, 101, 114, 115, 44, 32, 100, 105, 103, 105, 116, 115, 44, 32, 39, 46, 39, 44, 32, 39, 45, 39, 32, 97, 110, 100, 32, 39, 95, 39]⟩ 1 = some [(0, 113, false)] := by kernel_rfl
@[go_sem] theorem Tryf.fmt0r (w : World) : (FmtDoors.printed ⟨#[37, 113, 32, 105, 115, 32, 110, 111, 116, 32, 97, 32, 112, 108, 97, 110, 32, 110, 97, 109, 101, 44, 32, 119, 104, 105, 99, 104, 32, 105, 115, 32, 49, 32, 116, 111, 32, 54, 52, 32, 65, 83, 67, 73, 73, 32, 108, 101, 116, 116, 101, 114, 115, 44, 32, 100, 105, 103, 105, 116, 115, 44, 32, 39, 46, 39, 44, 32, 39, 45, 39, 32, 97, 110, 100, 32, 39, 95, 39]⟩ 1).run Tryf.prog w = .ok [(0, 113, false)] w := by kernel_rfl

theorem Tryf.name9 : Tryf.prog.typeName? 3 9 = some "string" := by kernel_rfl
def Tryf.shape9 : List UInt8 := [12, 6, 0, 0, 0, 0, 0, 0, 0, 115, 116, 114, 105, 110, 103]
@[go_sem] theorem Tryf.op9_113 (name : String) (x : ByteArray) (w : World) : (FmtStop.operand name false 113 false (.iface 9 (.string x))).run Tryf.prog w = .ok (Tryf.shape9, FmtStop.pack x.data.toList) w := by kernel_rfl
@[go_sem] theorem Tryf.op9_113w (name : String) (x : ByteArray) (w : World) : (FmtStop.operand name true 113 false (.iface 9 (.string x))).run Tryf.prog w = .ok (Tryf.shape9, FmtStop.pack x.data.toList) w := by kernel_rfl

@[go_sem] theorem Tryf.ptr31 (w : World) : (FmtStop.ptrTo "errors.errorString").run Tryf.prog w = .ok 31 w := by kernel_rfl
@[go_sem] theorem Tryf.elem31 (w : World) : (elemOf 31).run Tryf.prog w = .ok 33 w := by kernel_rfl
@[go_sem] theorem Tryf.isError31' (w : World) : (FmtDoors.textMethod 31 "Error").run Tryf.prog w = .ok true w := by kernel_rfl

end Go.Proofs
