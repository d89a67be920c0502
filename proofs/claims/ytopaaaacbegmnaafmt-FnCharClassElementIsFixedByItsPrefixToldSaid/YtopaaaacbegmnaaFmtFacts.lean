/-
  THE CLOSED FACTS for a walk over fmt's stopped front in this seat: what the call of the stop runs, what the three formats give, what a string operand reads as, which error type is made. Each is the kernel's own evaluation.
-/
import Derived.Test.YtopaaaacbegmnaaFmtProg
import Derived.Stop.CallBack
import Derived.Stop.IfaceNil
import GoSem.ClaimData
namespace Go.Proofs
open Go.Extern.Stop Go.Stop Go.Extern

@[go_sem] theorem Tryf.call15 (args : Array Value) (w : World) : (callFunc 15 args).run Tryf.prog w = ((FmtStop.errorf #[9, 35] #[24] args).run Tryf.prog w).andThen fun v w' => .ok (.value v) w' :=
  run_callFunc_extern Tryf.func15 (by kernel_rfl) (by kernel_rfl) (by kernel_rfl) (by kernel_rfl) args w
@[go_sem] theorem Tryf.guard (name : String) (w : World) : (FmtStop.guard name).run Tryf.prog w = .ok () w := by kernel_rfl

-- message 0
@[go_sem] theorem Tryf.fmt0 : FmtStop.printed? ⟨#[99, 111, 108, 108, 97, 116, 105, 110, 103, 32, 102, 101, 97, 116, 117, 114, 101, 115, 32, 110, 111, 116, 32, 97, 118, 97, 105, 108, 97, 98, 108, 101]⟩ 0 = some [] := by kernel_rfl
@[go_sem] theorem Tryf.fmt0r (w : World) : (FmtDoors.printed ⟨#[99, 111, 108, 108, 97, 116, 105, 110, 103, 32, 102, 101, 97, 116, 117, 114, 101, 115, 32, 110, 111, 116, 32, 97, 118, 97, 105, 108, 97, 98, 108, 101]⟩ 0).run Tryf.prog w = .ok [] w := by kernel_rfl

-- message 1
@[go_sem] theorem Tryf.fmt1 : FmtStop.printed? ⟨#[91, 91, 58, 32, 119, 97, 115, 32, 110, 111, 116, 32, 109, 97, 116, 99, 104, 101, 100, 32, 119, 105, 116, 104, 32, 97, 32, 99, 108, 111, 115, 105, 110, 103, 32, 58, 93]⟩ 0 = some [] := by kernel_rfl
@[go_sem] theorem Tryf.fmt1r (w : World) : (FmtDoors.printed ⟨#[91, 91, 58, 32, 119, 97, 115, 32, 110, 111, 116, 32, 109, 97, 116, 99, 104, 101, 100, 32, 119, 105, 116, 104, 32, 97, 32, 99, 108, 111, 115, 105, 110, 103, 32, 58, 93]⟩ 0).run Tryf.prog w = .ok [] w := by kernel_rfl

-- message 2
@[go_sem] theorem Tryf.fmt2 : FmtStop.printed? ⟨#[105, 110, 118, 97, 108, 105, 100, 32, 99, 104, 97, 114, 97, 99, 116, 101, 114, 32, 99, 108, 97, 115, 115, 58, 32, 37, 113]⟩ 1 = some [(0, 113, false)] := by kernel_rfl
@[go_sem] theorem Tryf.fmt2r (w : World) : (FmtDoors.printed ⟨#[105, 110, 118, 97, 108, 105, 100, 32, 99, 104, 97, 114, 97, 99, 116, 101, 114, 32, 99, 108, 97, 115, 115, 58, 32, 37, 113]⟩ 1).run Tryf.prog w = .ok [(0, 113, false)] w := by kernel_rfl

theorem Tryf.name9 : Tryf.prog.typeName? 3 9 = some "string" := by kernel_rfl
def Tryf.shape9 : List UInt8 := [12, 6, 0, 0, 0, 0, 0, 0, 0, 115, 116, 114, 105, 110, 103]
@[go_sem] theorem Tryf.op9_113 (name : String) (x : ByteArray) (w : World) : (FmtStop.operand name false 113 false (.iface 9 (.string x))).run Tryf.prog w = .ok (Tryf.shape9, FmtStop.pack x.data.toList) w := by kernel_rfl
@[go_sem] theorem Tryf.op9_113w (name : String) (x : ByteArray) (w : World) : (FmtStop.operand name true 113 false (.iface 9 (.string x))).run Tryf.prog w = .ok (Tryf.shape9, FmtStop.pack x.data.toList) w := by kernel_rfl

@[go_sem] theorem Tryf.ptr38 (w : World) : (FmtStop.ptrTo "errors.errorString").run Tryf.prog w = .ok 38 w := by kernel_rfl
@[go_sem] theorem Tryf.elem38 (w : World) : (elemOf 38).run Tryf.prog w = .ok 40 w := by kernel_rfl
@[go_sem] theorem Tryf.isError38 (w : World) : (FmtDoors.textMethod 38 "Error").run Tryf.prog w = .ok true w := by kernel_rfl
end Go.Proofs
