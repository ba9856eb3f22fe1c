/-
  DERIVED. GIVEN WITH THE SEED: THE CARDS: each row of Qxb6612277aFmtRows.lean that lists a variable, with what it lists TIED to the program's text (the seventh form; the later family's looks); each row that meets fmt, with fmt's text TOLD by the authors' own Lean function (tested against real Go, not proved from fmt's source: count such statements apart). THE CARD IS WHAT COUNTS. Prove the row's statement (the work); the ties are given (Qxb6612277aFmtTie.lean); close each card by the builder's one call (the guide's Derived/Test/ToyasCard.lean, 'card_holds'). Laid BY PROGRAM, IN A SANDBOX (cutbox-door.mjs). By AI agents, Wed Nov 11 2026. No macro, syntax, notation, axiom, sorry.
-/
import Derived.Test.Qxb6612277aFmtRows
import GoSem.ClaimSeven
namespace Go.Proofs.Qxb6612277aFmt
namespace Rows

/-- THE TOLD CARD OF 'zzlaws_root_b1.FnRefusedErrorLaterRefusalsChangeOnlyTheCount'. -/
def fnRefusedErrorLaterRefusalsChangeOnlyTheCountCard : Claim7 := { stood := { row := fnRefusedErrorLaterRefusalsChangeOnlyTheCountRow, standIns := [], harness := (true, "ed9199185df965ba21d513520b7ff78242b73015f9846ef688952f890789105d"), looks := false }, told := true, goes := false }
def FnRefusedErrorLaterRefusalsChangeOnlyTheCountToldSaid : Prop := Claim7.holds Tryf.pinned (.plain (OpenSpec.ofChange fnRefusedErrorLaterRefusalsChangeOnlyTheCountSpec)) fnRefusedErrorLaterRefusalsChangeOnlyTheCountCard
/-- ITS FALSE NEIGHBOUR. Refute it at one input. -/
def FnRefusedErrorLaterRefusalsChangeOnlyTheCountToldWrongFalsely : Prop := Claim7.holds Tryf.pinned (.plain (OpenSpec.ofChange fnRefusedErrorLaterRefusalsChangeOnlyTheCountWrong)) fnRefusedErrorLaterRefusalsChangeOnlyTheCountCard

/-- THE TOLD AND TIED CARD OF 'zzlaws_root_b1.FnWriteTextWritesTheTrimmedUnfoldedBodyOrRefusesIt'. -/
def fnWriteTextWritesTheTrimmedUnfoldedBodyOrRefusesItCard : Claim7 := { stood := { row := fnWriteTextWritesTheTrimmedUnfoldedBodyOrRefusesItRow, standIns := [], harness := (true, "ed9199185df965ba21d513520b7ff78242b73015f9846ef688952f890789105d"), looks := false }, told := true, laidByText := true, laidKinds := [.data, .pinned], laidTests := true, laidLooks := .later, goes := false }
def FnWriteTextWritesTheTrimmedUnfoldedBodyOrRefusesItToldSaid : Prop := Claim7.holds Tryf.pinned (.plain (OpenSpec.ofChange fnWriteTextWritesTheTrimmedUnfoldedBodyOrRefusesItSpec)) fnWriteTextWritesTheTrimmedUnfoldedBodyOrRefusesItCard
/-- ITS FALSE NEIGHBOUR. Refute it at one input. -/
def FnWriteTextWritesTheTrimmedUnfoldedBodyOrRefusesItToldWrongFalsely : Prop := Claim7.holds Tryf.pinned (.plain (OpenSpec.ofChange fnWriteTextWritesTheTrimmedUnfoldedBodyOrRefusesItWrong)) fnWriteTextWritesTheTrimmedUnfoldedBodyOrRefusesItCard
end Rows
end Go.Proofs.Qxb6612277aFmt
