/-
  THE CLOSED FACTS FOR A WALK OVER fmt's STOPPED FRONT, at this program's numbers (after the guide's LabelFmt.lean): each by the kernel's own evaluation.
-/
import Derived.Test.Qxb6612707aFmtProg
import Derived.Stop.CallBack
import Derived.Stop.IfaceNil
import GoSem.ClaimData
namespace Go.Proofs
open Go.Extern.Stop Go.Stop Go.Extern

-- fmt.Sprintf: function 10: a plain stop
@[go_sem] theorem Tryf.call10 (args : Array Value) (w : World) : (callFunc 10 args).run Tryf.prog w = ((FmtStop.sprintf #[9, 46] #[9] args).run Tryf.prog w).andThen fun v w' => .ok (.value v) w' :=
  run_callFunc_extern Tryf.func10 (by kernel_rfl) (by kernel_rfl) (by kernel_rfl) (by kernel_rfl) args w

@[go_sem] theorem Tryf.guard (name : String) (w : World) : (FmtStop.guard name).run Tryf.prog w = .ok () w := by kernel_rfl

-- the format: percent, sharp, v, colon, blank, percent, s; two operands
@[go_sem] theorem Tryf.fmt0 : FmtStop.printed? ⟨#[37, 35, 118, 58, 32, 37, 115]⟩ 2 = some [(0, 118, true), (1, 115, false)] := by kernel_rfl
@[go_sem] theorem Tryf.fmt0r (w : World) : (FmtDoors.printed ⟨#[37, 35, 118, 58, 32, 37, 115]⟩ 2).run Tryf.prog w = .ok [(0, 118, true), (1, 115, false)] w := by kernel_rfl

-- type 9: string
theorem Tryf.name9 : Tryf.prog.typeName? 3 9 = some "string" := by kernel_rfl
def Tryf.shape9 : List UInt8 := [12, 6, 0, 0, 0, 0, 0, 0, 0, 115, 116, 114, 105, 110, 103]
@[go_sem] theorem Tryf.op9_118 (name : String) (x : ByteArray) (w : World) : (FmtStop.operand name false 118 true (.iface 9 (.string x))).run Tryf.prog w = .ok (Tryf.shape9, FmtStop.pack x.data.toList) w := by kernel_rfl
@[go_sem] theorem Tryf.op9_115 (name : String) (x : ByteArray) (w : World) : (FmtStop.operand name false 115 false (.iface 9 (.string x))).run Tryf.prog w = .ok (Tryf.shape9, FmtStop.pack x.data.toList) w := by kernel_rfl

end Go.Proofs
