/-
  THE CLOSED FACTS FOR A WALK OVER fmt's STOPPED FRONT 'fmt.errorf' (after the guide's CheckFmt, at this dump's numbers).
-/
import Derived.Test.YbulkaqzgFmtProg
import Derived.Stop.CallBack
import Derived.Stop.IfaceNil
import GoSem.ClaimData
import Derived.KernelRfl
namespace Go.Proofs
open Go.Extern.Stop Go.Stop Go.Extern

@[go_sem] theorem Ybaf.call29 (args : Array Value) (w : World) : (callFunc 29 args).run Ybaf.prog w = ((FmtStop.errorf #[9, 90] #[28] args).run Ybaf.prog w).andThen fun v w' => .ok (.value v) w' :=
  run_callFunc_extern Ybaf.func29 (by kernel_rfl) (by kernel_rfl) (by kernel_rfl) (by kernel_rfl) args w

@[go_sem] theorem Ybaf.guard (name : String) (w : World) : (FmtStop.guard name).run Ybaf.prog w = .ok () w := by kernel_rfl

@[go_sem] theorem Ybaf.fmt0 : FmtStop.printed? ⟨#[99, 97, 99, 104, 101, 58, 32, 110, 111, 32, 105, 110, 100, 101, 120, 32, 110, 97, 109, 101, 100, 32, 37, 113]⟩ 1 = some [(0, 113, false)] := by kernel_rfl
@[go_sem] theorem Ybaf.fmt0r (w : World) : (FmtDoors.printed ⟨#[99, 97, 99, 104, 101, 58, 32, 110, 111, 32, 105, 110, 100, 101, 120, 32, 110, 97, 109, 101, 100, 32, 37, 113]⟩ 1).run Ybaf.prog w = .ok [(0, 113, false)] w := by kernel_rfl

theorem Ybaf.name9 : Ybaf.prog.typeName? 3 9 = some "string" := by kernel_rfl
def Ybaf.shape9 : List UInt8 := [12, 6, 0, 0, 0, 0, 0, 0, 0, 115, 116, 114, 105, 110, 103]
@[go_sem] theorem Ybaf.op9_113w (name : String) (x : ByteArray) (w : World) : (FmtStop.operand name true 113 false (.iface 9 (.string x))).run Ybaf.prog w = .ok (Ybaf.shape9, FmtStop.pack x.data.toList) w := by kernel_rfl
@[go_sem] theorem Ybaf.strict9 (name : String) (x : ByteArray) (w : World) : (FmtStop.strict name (.iface 9 (.string x))).run Ybaf.prog w = .ok (Ybaf.shape9, FmtStop.pack x.data.toList) w := by kernel_rfl

@[go_sem] theorem Ybaf.ptr105 (w : World) : (FmtStop.ptrTo "errors.errorString").run Ybaf.prog w = .ok 105 w := by kernel_rfl
@[go_sem] theorem Ybaf.elem105 (w : World) : (elemOf 105).run Ybaf.prog w = .ok 107 w := by kernel_rfl
@[go_sem] theorem Ybaf.isError105' (w : World) : (FmtDoors.textMethod 105 "Error").run Ybaf.prog w = .ok true w := by kernel_rfl
end Go.Proofs
