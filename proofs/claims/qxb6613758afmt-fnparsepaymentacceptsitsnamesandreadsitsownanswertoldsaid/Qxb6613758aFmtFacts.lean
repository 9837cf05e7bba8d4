import Derived.Test.Qxb6613758aFmtProg
import Derived.Stop.CallBack
import Derived.Stop.IfaceNil
import GoSem.ClaimData
namespace Go.Proofs
open Go.Extern.Stop Go.Stop Go.Extern

/-! The closed facts for a walk over fmt's stopped front at this dump, each by the kernel's own evaluation. -/
@[go_sem] theorem Tryf.call9 (args : Array Value) (w : World) : (callFunc 9 args).run Tryf.prog w = ((FmtStop.errorf #[9, 30] #[25] args).run Tryf.prog w).andThen fun v w' => .ok (.value v) w' :=
  run_callFunc_extern Tryf.func9 (by kernel_rfl) (by kernel_rfl) (by kernel_rfl) (by kernel_rfl) args w
@[go_sem] theorem Tryf.guard (name : String) (w : World) : (FmtStop.guard name).run Tryf.prog w = .ok () w := by kernel_rfl
@[go_sem] theorem Tryf.fmt0 : FmtStop.printed? ⟨#[37, 115, 32, 37, 113, 32, 105, 115, 32, 110, 101, 105, 116, 104, 101, 114, 32, 37, 115, 32, 110, 111, 114, 32, 37, 115]⟩ 4 = some [(0, 115, false), (1, 113, false), (2, 115, false), (3, 115, false)] := by kernel_rfl
@[go_sem] theorem Tryf.fmt0r (w : World) : (FmtDoors.printed ⟨#[37, 115, 32, 37, 113, 32, 105, 115, 32, 110, 101, 105, 116, 104, 101, 114, 32, 37, 115, 32, 110, 111, 114, 32, 37, 115]⟩ 4).run Tryf.prog w = .ok [(0, 115, false), (1, 113, false), (2, 115, false), (3, 115, false)] w := by kernel_rfl
theorem Tryf.name9 : Tryf.prog.typeName? 3 9 = some "string" := by kernel_rfl
def Tryf.shape9 : List UInt8 := [12, 6, 0, 0, 0, 0, 0, 0, 0, 115, 116, 114, 105, 110, 103]
@[go_sem] theorem Tryf.op9_115 (name : String) (x : ByteArray) (w : World) : (FmtStop.operand name false 115 false (.iface 9 (.string x))).run Tryf.prog w = .ok (Tryf.shape9, FmtStop.pack x.data.toList) w := by kernel_rfl
@[go_sem] theorem Tryf.op9_113 (name : String) (x : ByteArray) (w : World) : (FmtStop.operand name false 113 false (.iface 9 (.string x))).run Tryf.prog w = .ok (Tryf.shape9, FmtStop.pack x.data.toList) w := by kernel_rfl
@[go_sem] theorem Tryf.op9_115w (name : String) (x : ByteArray) (w : World) : (FmtStop.operand name true 115 false (.iface 9 (.string x))).run Tryf.prog w = .ok (Tryf.shape9, FmtStop.pack x.data.toList) w := by kernel_rfl
@[go_sem] theorem Tryf.op9_113w (name : String) (x : ByteArray) (w : World) : (FmtStop.operand name true 113 false (.iface 9 (.string x))).run Tryf.prog w = .ok (Tryf.shape9, FmtStop.pack x.data.toList) w := by kernel_rfl
def Tryf.shape23 : List UInt8 := [12, 14, 0, 0, 0, 0, 0, 0, 0, 122, 104, 97, 111, 109, 117, 46, 80, 97, 121, 109, 101, 110, 116]
@[go_sem] theorem Tryf.op23_115 (name : String) (x : ByteArray) (w : World) : (FmtStop.operand name false 115 false (.iface 23 (.string x))).run Tryf.prog w = .ok (Tryf.shape23, FmtStop.pack x.data.toList) w := by kernel_rfl
@[go_sem] theorem Tryf.op23_115w (name : String) (x : ByteArray) (w : World) : (FmtStop.operand name true 115 false (.iface 23 (.string x))).run Tryf.prog w = .ok (Tryf.shape23, FmtStop.pack x.data.toList) w := by kernel_rfl
@[go_sem] theorem Tryf.ptr33 (w : World) : (FmtStop.ptrTo "errors.errorString").run Tryf.prog w = .ok 33 w := by kernel_rfl
@[go_sem] theorem Tryf.elem33 (w : World) : (elemOf 33).run Tryf.prog w = .ok 35 w := by kernel_rfl
@[go_sem] theorem Tryf.isError33' (w : World) : (FmtDoors.textMethod 33 "Error").run Tryf.prog w = .ok true w := by kernel_rfl
end Go.Proofs
