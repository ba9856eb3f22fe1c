/-
  NARROWER THAN 'FOR EVERY INPUT', by the rows' own cells (each row's printed sentence says how): FnWriteTextWritesTheTrimmedUnfoldedBodyOrRefusesIt: laid.
  DERIVED. THE GIVEN ROWS OF THIS SEAT. 2 by the template 'for every input the law returns true; each argument reads behind the call as it read before'; 0 by the template 'total and deterministic' (their statements: Qxb6612277aFmtTotals.lean).
  GIVEN WITH THE SEED: the statements are not yours to turn. If you find one false, say at which input.
  Laid BY PROGRAM, IN A SANDBOX (cutbox-rows.mjs): the forced cells as the released guide's own fill.sh prints them over the translation bbf2dced1b9a0430… (all of the seat's roots in one cut). By AI agents, Wed Nov 11 2026. No macro, syntax, notation, axiom, sorry.
-/
import Derived.Test.Qxb6612277aFmtChecked
import GoSem.PinnedTables
import GoSem.Claim
import GoSem.ClaimJoined
import GoSem.ClaimMapViews
import Derived.JoinedTies
import Derived.KernelRfl
namespace Go.Proofs.Qxb6612277aFmt
/- THE CELL 'sum', in the pinned program and in every row, IS THE sha256 OF THE DUMP (.gsa) THAT Qxb6612277aFmtProg.lean LOADS. Nothing in Lean hashes anything: it is a label: what it is worth is what the hold of that sum in a sandbox is worth. -/
noncomputable def Tryf.pinned : Pinned := { name := "qxb6612277afmt", sum := "bbf2dced1b9a0430c04a1600c3628a1b9dd97bc8aee347178488fa6d76c003f0", checked := Tryf.checked }
namespace Rows
def none {H : Type} : Left H := { results := [], args := [] }

/- WHAT THE LISTED PACKAGE-LEVEL VARIABLES READ AS WHEN THE CALL BEGINS. Each datum BY PROGRAM (the guide's laid-datum.mjs) off the statement by which the dump's own 'gosem.cut.vars' lays the variable. In a bare row this is a premise. The card (Qxb6612277aFmtCards.lean) ties it to the program's text. -/
def laid_unicode_utf8_acceptRanges {H : Type} : DataW H := .agg [.agg [.lit (.int .u8 128), .lit (.int .u8 191)], .agg [.lit (.int .u8 160), .lit (.int .u8 191)], .agg [.lit (.int .u8 128), .lit (.int .u8 159)], .agg [.lit (.int .u8 144), .lit (.int .u8 191)], .agg [.lit (.int .u8 128), .lit (.int .u8 143)], .agg [.lit (.int .u8 0), .lit (.int .u8 0)], .agg [.lit (.int .u8 0), .lit (.int .u8 0)], .agg [.lit (.int .u8 0), .lit (.int .u8 0)], .agg [.lit (.int .u8 0), .lit (.int .u8 0)], .agg [.lit (.int .u8 0), .lit (.int .u8 0)], .agg [.lit (.int .u8 0), .lit (.int .u8 0)], .agg [.lit (.int .u8 0), .lit (.int .u8 0)], .agg [.lit (.int .u8 0), .lit (.int .u8 0)], .agg [.lit (.int .u8 0), .lit (.int .u8 0)], .agg [.lit (.int .u8 0), .lit (.int .u8 0)], .agg [.lit (.int .u8 0), .lit (.int .u8 0)]]
/-- One of Go's own tables, pinned by name: the form's constant. -/
def laid_unicode_utf8_first : DataW Unit := Go.Pinned.utf8First

/-- 'zzlaws_root_b1.FnRefusedErrorLaterRefusalsChangeOnlyTheCount': WHATEVER THE INPUT: true; the input reads as it did. -/
def fnRefusedErrorLaterRefusalsChangeOnlyTheCountSpec : ChangeSpec := { name := "fnRefusedErrorLaterRefusalsChangeOnlyTheCount", fn := fun _ => fun
  | [d1, d2, d3, d4, d5, d6] => { results := [.lit (.bool true)], args := [d1, d2, d3, d4, d5, d6] }
  | _ => none }
def fnRefusedErrorLaterRefusalsChangeOnlyTheCountRow : OpenClaim := { program := "qxb6612277afmt", sum := "bbf2dced1b9a0430c04a1600c3628a1b9dd97bc8aee347178488fa6d76c003f0", func := "example.com/letterfold/letterfold/zzlaws_root_b1.FnRefusedErrorLaterRefusalsChangeOnlyTheCount", spec := "fnRefusedErrorLaterRefusalsChangeOnlyTheCount", stops := ["fmt.Sprintf", "fmt.Sprint", "fmt.errorf, its operands' methods called"], inPlace := ["fmt.Sprintf", "fmt.Sprint"], unfollowed := true, recurses := true, apart := false }
/-- NO THEOREM (fmt's text is open here; it may be false): for the released tool's asking of the row's closed facts alone. THE STATEMENT IS 'FnRefusedErrorLaterRefusalsChangeOnlyTheCountToldSaid' (Qxb6612277aFmtCards.lean). -/
def FnRefusedErrorLaterRefusalsChangeOnlyTheCountFormAsk : Prop := fnRefusedErrorLaterRefusalsChangeOnlyTheCountRow.holds Tryf.pinned (OpenSpec.ofChange fnRefusedErrorLaterRefusalsChangeOnlyTheCountSpec)

/-- ITS FALSE NEIGHBOUR: 'it returns false'. Refute it at one input. -/
def fnRefusedErrorLaterRefusalsChangeOnlyTheCountWrong : ChangeSpec := { name := "fnRefusedErrorLaterRefusalsChangeOnlyTheCount", fn := fun _ => fun
  | [d1, d2, d3, d4, d5, d6] => { results := [.lit (.bool false)], args := [d1, d2, d3, d4, d5, d6] }
  | _ => none }
def FnRefusedErrorLaterRefusalsChangeOnlyTheCountWrongFormAsk : Prop := fnRefusedErrorLaterRefusalsChangeOnlyTheCountRow.holds Tryf.pinned (OpenSpec.ofChange fnRefusedErrorLaterRefusalsChangeOnlyTheCountWrong)

/-- 'zzlaws_root_b1.FnWriteTextWritesTheTrimmedUnfoldedBodyOrRefusesIt': WHATEVER THE INPUT: true; the input reads as it did. -/
def fnWriteTextWritesTheTrimmedUnfoldedBodyOrRefusesItSpec : ChangeSpec := { name := "fnWriteTextWritesTheTrimmedUnfoldedBodyOrRefusesIt", fn := fun _ => fun
  | [d] => { results := [.lit (.bool true)], args := [d] }
  | _ => none }
def fnWriteTextWritesTheTrimmedUnfoldedBodyOrRefusesItRow : OpenClaim := { program := "qxb6612277afmt", sum := "bbf2dced1b9a0430c04a1600c3628a1b9dd97bc8aee347178488fa6d76c003f0", func := "example.com/letterfold/letterfold/zzlaws_root_b1.FnWriteTextWritesTheTrimmedUnfoldedBodyOrRefusesIt", spec := "fnWriteTextWritesTheTrimmedUnfoldedBodyOrRefusesIt", stops := ["fmt.Sprintf", "fmt.Sprint", "fmt.errorf, its operands' methods called"], inPlace := ["internal/bytealg.IndexByte", "internal/bytealg.Index", "internal/abi.NoEscape", "internal/bytealg.MakeNoZero", "internal/bytealg.IndexByteString", "internal/bytealg.IndexString", "fmt.errorf"], unfollowed := true, recurses := true, named := ["internal/bytealg.MaxLen", "unicode/utf8.first", "unicode/utf8.acceptRanges"], apart := false, laid := [("unicode/utf8.acceptRanges", laid_unicode_utf8_acceptRanges), ("unicode/utf8.first", laid_unicode_utf8_first)] }
/-- NO THEOREM (fmt's text is open here; it may be false): for the released tool's asking of the row's closed facts alone. THE STATEMENT IS 'FnWriteTextWritesTheTrimmedUnfoldedBodyOrRefusesItToldSaid' (Qxb6612277aFmtCards.lean). -/
def FnWriteTextWritesTheTrimmedUnfoldedBodyOrRefusesItFormAsk : Prop := fnWriteTextWritesTheTrimmedUnfoldedBodyOrRefusesItRow.holds Tryf.pinned (OpenSpec.ofChange fnWriteTextWritesTheTrimmedUnfoldedBodyOrRefusesItSpec)

/-- ITS FALSE NEIGHBOUR: 'it returns false'. Refute it at one input. -/
def fnWriteTextWritesTheTrimmedUnfoldedBodyOrRefusesItWrong : ChangeSpec := { name := "fnWriteTextWritesTheTrimmedUnfoldedBodyOrRefusesIt", fn := fun _ => fun
  | [d] => { results := [.lit (.bool false)], args := [d] }
  | _ => none }
def FnWriteTextWritesTheTrimmedUnfoldedBodyOrRefusesItWrongFormAsk : Prop := fnWriteTextWritesTheTrimmedUnfoldedBodyOrRefusesItRow.holds Tryf.pinned (OpenSpec.ofChange fnWriteTextWritesTheTrimmedUnfoldedBodyOrRefusesItWrong)

end Rows
end Go.Proofs.Qxb6612277aFmt
