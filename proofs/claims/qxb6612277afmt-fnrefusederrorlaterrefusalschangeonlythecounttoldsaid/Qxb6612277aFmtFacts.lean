/-
  THE CLOSED FACTS FOR A WALK OVER fmt.Sprintf's AND fmt.Sprint's STOPPED FRONTS at this program's numbers (after the guide's LabelFmt.lean and Tb8Fmt.lean, typed for this dump).
-/
import Derived.Test.Qxb6612277aFmtProg
import Derived.Stop.CallBack
import Derived.Stop.IfaceNil
import GoSem.ClaimData
namespace Go.Proofs.Qxb6612277aFmt
open Go.Extern.Stop Go.Stop Go.Extern

theorem Tryf.call22 (args : Array Value) (w : World) : (callFunc 22 args).run Tryf.prog w = ((FmtStop.sprintf #[9, 90] #[9] args).run Tryf.prog w).andThen fun v w' => .ok (.value v) w' :=
  run_callFunc_extern Tryf.func22 (by kernel_rfl) (by kernel_rfl) (by kernel_rfl) (by kernel_rfl) args w
theorem Tryf.call23 (args : Array Value) (w : World) : (callFunc 23 args).run Tryf.prog w = ((FmtStop.sprint "fmt.Sprint" #[90] #[9] args).run Tryf.prog w).andThen fun v w' => .ok (.value v) w' :=
  run_callFunc_extern Tryf.func23 (by kernel_rfl) (by kernel_rfl) (by kernel_rfl) (by kernel_rfl) args w

theorem Tryf.guard (name : String) (w : World) : (FmtStop.guard name).run Tryf.prog w = .ok () w := by kernel_rfl

/-- The format. -/
def fmtBytes : List UInt8 := [108, 101, 116, 116, 101, 114, 102, 111, 108, 100, 58, 32, 37, 100, 32, 112, 97, 114, 116, 40, 115, 41, 32, 111, 102, 32, 116, 104, 101, 32, 109, 101, 115, 115, 97, 103, 101, 32, 99, 97, 110, 110, 111, 116, 32, 98, 101, 32, 119, 114, 105, 116, 116, 101, 110, 32, 105, 110, 32, 116, 104, 101, 32, 99, 117, 114, 114, 101, 110, 116, 32, 115, 121, 110, 116, 97, 120]

theorem Tryf.fmt2 : FmtStop.printed? ⟨#[108, 101, 116, 116, 101, 114, 102, 111, 108, 100, 58, 32, 37, 100, 32, 112, 97, 114, 116, 40, 115, 41, 32, 111, 102, 32, 116, 104, 101, 32, 109, 101, 115, 115, 97, 103, 101, 32, 99, 97, 110, 110, 111, 116, 32, 98, 101, 32, 119, 114, 105, 116, 116, 101, 110, 32, 105, 110, 32, 116, 104, 101, 32, 99, 117, 114, 114, 101, 110, 116, 32, 115, 121, 110, 116, 97, 120]⟩ 1 = some [(0, 100, false)] := by kernel_rfl
theorem Tryf.fmt2r (w : World) : (FmtDoors.printed ⟨#[108, 101, 116, 116, 101, 114, 102, 111, 108, 100, 58, 32, 37, 100, 32, 112, 97, 114, 116, 40, 115, 41, 32, 111, 102, 32, 116, 104, 101, 32, 109, 101, 115, 115, 97, 103, 101, 32, 99, 97, 110, 110, 111, 116, 32, 98, 101, 32, 119, 114, 105, 116, 116, 101, 110, 32, 105, 110, 32, 116, 104, 101, 32, 99, 117, 114, 114, 101, 110, 116, 32, 115, 121, 110, 116, 97, 120]⟩ 1).run Tryf.prog w = .ok [(0, 100, false)] w := by kernel_rfl

/-- An int's value as fmt is asked. -/
def dig (x : Int) : List UInt8 := Go.Extern.Stop.digits 8 (x % 2 ^ 64).toNat

def Tryf.shape3 : List UInt8 := [5, 3, 0, 0, 0, 0, 0, 0, 0, 105, 110, 116]
theorem Tryf.op3_100 (name : String) (x : Int) (w : World) : (FmtStop.operand name false 100 false (.iface 3 (.int .i64 x))).run Tryf.prog w = .ok (Tryf.shape3, dig x) w := by kernel_rfl
theorem Tryf.op3_118 (name : String) (x : Int) (w : World) : (FmtStop.operand name false 118 false (.iface 3 (.int .i64 x))).run Tryf.prog w = .ok (Tryf.shape3, dig x) w := by kernel_rfl
theorem Tryf.strict3 (name : String) (x : Int) (w : World) : (FmtStop.strict name (.iface 3 (.int .i64 x))).run Tryf.prog w = .ok (Tryf.shape3, dig x) w := by kernel_rfl

end Go.Proofs.Qxb6612277aFmt
