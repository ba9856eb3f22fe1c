/-
  WALK: zzBytes (5, 12): a bool, and nothing turned.
-/
import Derived.Test.Qxb6612201aProg
import Derived.WalkKit
import Derived.WalkSpells
import Derived.Handy
namespace Go.Proofs.Qxb6612201a
open Go.RowKit
set_option linter.unusedVariables false

set_option maxHeartbeats 6400000 in
set_option maxRecDepth 100000 in
theorem zb5_any (a0 a1 a2 a3 a4 a5 a6 a7 : Option Addr) (l0 l1 l2 l3 l4 l5 l6 l7 c0 c1 c2 c3 c4 c5 c6 c7 : Nat) (i s : Int) (w : World) :
    Calls Try.prog 5 #[.slice a0 l0 c0, .slice a1 l1 c1, .slice a2 l2 c2, .slice a3 l3 c3, .slice a4 l4 c4, .slice a5 l5 c5, .slice a6 l6 c6, .slice a7 l7 c7, .int .i64 i, .int .i64 s] w fun e w' => (∃ b, e = .returned (.bool b)) ∧ w = w' := by
  go_enter Try.func5, Try.ntmps5
  go_wp2_with fail
  all_goals (go_returns; exact ⟨⟨_, rfl⟩, rfl⟩)

set_option maxHeartbeats 6400000 in
set_option maxRecDepth 100000 in
theorem zb12_any (a0 a1 a2 a3 a4 a5 a6 a7 : Option Addr) (l0 l1 l2 l3 l4 l5 l6 l7 c0 c1 c2 c3 c4 c5 c6 c7 : Nat) (i s : Int) (w : World) :
    Calls Try.prog 12 #[.slice a0 l0 c0, .slice a1 l1 c1, .slice a2 l2 c2, .slice a3 l3 c3, .slice a4 l4 c4, .slice a5 l5 c5, .slice a6 l6 c6, .slice a7 l7 c7, .int .i64 i, .int .i64 s] w fun e w' => (∃ b, e = .returned (.bool b)) ∧ w = w' := by
  go_enter Try.func12, Try.ntmps12
  go_wp2_with fail
  all_goals (go_returns; exact ⟨⟨_, rfl⟩, rfl⟩)

end Go.Proofs.Qxb6612201a
