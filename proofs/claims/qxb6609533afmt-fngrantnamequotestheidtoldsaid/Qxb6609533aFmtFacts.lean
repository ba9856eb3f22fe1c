/-
  THE CLOSED FACTS FOR A WALK OVER fmt.Sprintf's STOPPED FRONT at this program's numbers (after the guide's LabelFmt.lean, typed for this dump).
-/
import Derived.Test.Qxb6609533aFmtProg
import Derived.Stop.CallBack
import Derived.Stop.IfaceNil
import GoSem.ClaimData
namespace Go.Proofs.Qxb6609533aFmt
open Go.Extern.Stop Go.Stop Go.Extern

theorem Tryf.call9 (args : Array Value) (w : World) : (callFunc 9 args).run Tryf.prog w = ((FmtStop.sprintf #[9, 49] #[9] args).run Tryf.prog w).andThen fun v w' => .ok (.value v) w' :=
  run_callFunc_extern Tryf.func9 (by kernel_rfl) (by kernel_rfl) (by kernel_rfl) (by kernel_rfl) args w

theorem Tryf.guard (name : String) (w : World) : (FmtStop.guard name).run Tryf.prog w = .ok () w := by kernel_rfl

-- the format: grant, a blank, percent q
theorem Tryf.fmt2 : FmtStop.printed? ⟨#[103, 114, 97, 110, 116, 32, 37, 113]⟩ 1 = some [(0, 113, false)] := by kernel_rfl
theorem Tryf.fmt2r (w : World) : (FmtDoors.printed ⟨#[103, 114, 97, 110, 116, 32, 37, 113]⟩ 1).run Tryf.prog w = .ok [(0, 113, false)] w := by kernel_rfl

def Tryf.shape9 : List UInt8 := [12, 6, 0, 0, 0, 0, 0, 0, 0, 115, 116, 114, 105, 110, 103]
theorem Tryf.op9_113 (name : String) (x : ByteArray) (w : World) : (FmtStop.operand name false 113 false (.iface 9 (.string x))).run Tryf.prog w = .ok (Tryf.shape9, FmtStop.pack x.data.toList) w := by kernel_rfl
theorem Tryf.strict9 (name : String) (x : ByteArray) (w : World) : (FmtStop.strict name (.iface 9 (.string x))).run Tryf.prog w = .ok (Tryf.shape9, FmtStop.pack x.data.toList) w := by kernel_rfl

end Go.Proofs.Qxb6609533aFmt
