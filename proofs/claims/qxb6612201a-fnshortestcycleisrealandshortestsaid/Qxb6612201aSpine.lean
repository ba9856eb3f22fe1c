/-
  THE TEXT OF shortestCycle, taken apart at its statements.
-/
import Derived.Test.Qxb6612201aProg
namespace Go.Proofs.Qxb6612201a
open Go

/-- What follows the first k statements. -/
def dropS : Nat → Code → Code
  | 0, c => c
  | k + 1, .seq _ b => dropS k b
  | _ + 1, c => c

def b14 (f : Func) : Code := f.body.getD .skip

def headS : Code → Code
  | .seq a _ => a
  | c => c

end Go.Proofs.Qxb6612201a
