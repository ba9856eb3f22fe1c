/-
  No cell of these rows narrows 'for every input' (looked for: loops, veiled, ifaces, maps, wideKeys, modest, calm, conditions, laid).
  DERIVED. THE GIVEN ROWS OF THIS SEAT. 2 by the template 'for every input the law returns true; each argument reads behind the call as it read before'; 0 by the template 'total and deterministic' (their statements: Qxb6612201aTotals.lean).
  GIVEN WITH THE SEED: the statements are not yours to turn. If you find one false, say at which input.
  Laid BY PROGRAM, IN A SANDBOX (cutbox-rows.mjs): the forced cells as the released guide's own fill.sh prints them over the translation d2d9d5fd6b46221b… (all of the seat's roots in one cut). By AI agents, Wed Nov 11 2026. No macro, syntax, notation, axiom, sorry.
-/
import Derived.Test.Qxb6612201aChecked
import GoSem.Claim
import GoSem.ClaimJoined
import GoSem.ClaimMapViews
import Derived.JoinedTies
import Derived.KernelRfl
namespace Go.Proofs.Qxb6612201a
/- THE CELL 'sum', in the pinned program and in every row, IS THE sha256 OF THE DUMP (.gsa) THAT Qxb6612201aProg.lean LOADS. Nothing in Lean hashes anything: it is a label: what it is worth is what the hold of that sum in a sandbox is worth. -/
noncomputable def Try.pinned : Pinned := { name := "qxb6612201a", sum := "d2d9d5fd6b46221b61d0a93642378f880bb39bd4f2a5ed04cc29e2c26b860e8a", checked := Try.checked }
namespace Rows
def none {H : Type} : Left H := { results := [], args := [] }

/-- 'zzlaws_internal_analysis_b1.FnShortestCycleIsLeastShortestCycle': WHATEVER THE INPUT: true; the input reads as it did. -/
def fnShortestCycleIsLeastShortestCycleSpec : ChangeSpec := { name := "fnShortestCycleIsLeastShortestCycle", fn := fun _ => fun
  | [d1, d2, d3, d4, d5, d6, d7, d8, d9, d10] => { results := [.lit (.bool true)], args := [d1, d2, d3, d4, d5, d6, d7, d8, d9, d10] }
  | _ => none }
def fnShortestCycleIsLeastShortestCycleRow : OpenClaim := { program := "qxb6612201a", sum := "d2d9d5fd6b46221b61d0a93642378f880bb39bd4f2a5ed04cc29e2c26b860e8a", func := "example.com/serialis/serialis/zzlaws_internal_analysis_b1.FnShortestCycleIsLeastShortestCycle", spec := "fnShortestCycleIsLeastShortestCycle", unfollowed := true, recurses := true, plainKeys := false, apart := false }
def FnShortestCycleIsLeastShortestCycleSaid : Prop := fnShortestCycleIsLeastShortestCycleRow.holds Try.pinned (OpenSpec.ofChange fnShortestCycleIsLeastShortestCycleSpec)

/-- ITS FALSE NEIGHBOUR: 'it returns false'. Refute it at one input. -/
def fnShortestCycleIsLeastShortestCycleWrong : ChangeSpec := { name := "fnShortestCycleIsLeastShortestCycle", fn := fun _ => fun
  | [d1, d2, d3, d4, d5, d6, d7, d8, d9, d10] => { results := [.lit (.bool false)], args := [d1, d2, d3, d4, d5, d6, d7, d8, d9, d10] }
  | _ => none }
def FnShortestCycleIsLeastShortestCycleWrongFalsely : Prop := fnShortestCycleIsLeastShortestCycleRow.holds Try.pinned (OpenSpec.ofChange fnShortestCycleIsLeastShortestCycleWrong)

/-- 'zzlaws_internal_analysis_b1.FnShortestCycleIsRealAndShortest': WHATEVER THE INPUT: true; the input reads as it did. -/
def fnShortestCycleIsRealAndShortestSpec : ChangeSpec := { name := "fnShortestCycleIsRealAndShortest", fn := fun _ => fun
  | [d1, d2, d3, d4, d5, d6, d7, d8, d9, d10] => { results := [.lit (.bool true)], args := [d1, d2, d3, d4, d5, d6, d7, d8, d9, d10] }
  | _ => none }
def fnShortestCycleIsRealAndShortestRow : OpenClaim := { program := "qxb6612201a", sum := "d2d9d5fd6b46221b61d0a93642378f880bb39bd4f2a5ed04cc29e2c26b860e8a", func := "example.com/serialis/serialis/zzlaws_internal_analysis_b1.FnShortestCycleIsRealAndShortest", spec := "fnShortestCycleIsRealAndShortest", unfollowed := true, recurses := true, plainKeys := false, apart := false }
def FnShortestCycleIsRealAndShortestSaid : Prop := fnShortestCycleIsRealAndShortestRow.holds Try.pinned (OpenSpec.ofChange fnShortestCycleIsRealAndShortestSpec)

/-- ITS FALSE NEIGHBOUR: 'it returns false'. Refute it at one input. -/
def fnShortestCycleIsRealAndShortestWrong : ChangeSpec := { name := "fnShortestCycleIsRealAndShortest", fn := fun _ => fun
  | [d1, d2, d3, d4, d5, d6, d7, d8, d9, d10] => { results := [.lit (.bool false)], args := [d1, d2, d3, d4, d5, d6, d7, d8, d9, d10] }
  | _ => none }
def FnShortestCycleIsRealAndShortestWrongFalsely : Prop := fnShortestCycleIsRealAndShortestRow.holds Try.pinned (OpenSpec.ofChange fnShortestCycleIsRealAndShortestWrong)

end Rows
end Go.Proofs.Qxb6612201a
