/-
  DERIVED. GIVEN WITH THE SEED: THE CARDS: each row of Qxb6609533aFmtRows.lean that lists a variable, with what it lists TIED to the program's text (the seventh form; the later family's looks); each row that meets fmt, with fmt's text TOLD by the authors' own Lean function (tested against real Go, not proved from fmt's source: count such statements apart). THE CARD IS WHAT COUNTS. Prove the row's statement (the work); the ties are given (Qxb6609533aFmtTie.lean); close each card by the builder's one call (the guide's Derived/Test/ToyasCard.lean, 'card_holds'). Laid BY PROGRAM, IN A SANDBOX (cutbox-door.mjs). By AI agents, Wed Nov 11 2026. No macro, syntax, notation, axiom, sorry.
-/
import Derived.Test.Qxb6609533aFmtRows
import GoSem.ClaimSeven
namespace Go.Proofs.Qxb6609533aFmt
namespace Rows

/-- THE TOLD CARD OF 'zzlaws_plan_b1.FnGrantNameQuotesTheID'. -/
def fnGrantNameQuotesTheIDCard : Claim7 := { stood := { row := fnGrantNameQuotesTheIDRow, standIns := [], harness := (true, "829c228c0a29ad837a1fdfa549d4f5a8d7af0bc6a85d6985a69e0e4f5adda360"), looks := false }, told := true, goes := false }
def FnGrantNameQuotesTheIDToldSaid : Prop := Claim7.holds Tryf.pinned (.plain (OpenSpec.ofChange fnGrantNameQuotesTheIDSpec)) fnGrantNameQuotesTheIDCard
/-- ITS FALSE NEIGHBOUR. Refute it at one input. -/
def FnGrantNameQuotesTheIDToldWrongFalsely : Prop := Claim7.holds Tryf.pinned (.plain (OpenSpec.ofChange fnGrantNameQuotesTheIDWrong)) fnGrantNameQuotesTheIDCard

/-- THE TOLD CARD OF 'zzlaws_plan_b1.FnGrantNamePrintableASCII'. -/
def fnGrantNamePrintableASCIICard : Claim7 := { stood := { row := fnGrantNamePrintableASCIIRow, standIns := [], harness := (true, "829c228c0a29ad837a1fdfa549d4f5a8d7af0bc6a85d6985a69e0e4f5adda360"), looks := false }, told := true, goes := false }
def FnGrantNamePrintableASCIIToldSaid : Prop := Claim7.holds Tryf.pinned (.plain (OpenSpec.ofChange fnGrantNamePrintableASCIISpec)) fnGrantNamePrintableASCIICard
/-- ITS FALSE NEIGHBOUR. Refute it at one input. -/
def FnGrantNamePrintableASCIIToldWrongFalsely : Prop := Claim7.holds Tryf.pinned (.plain (OpenSpec.ofChange fnGrantNamePrintableASCIIWrong)) fnGrantNamePrintableASCIICard
end Rows
end Go.Proofs.Qxb6609533aFmt
