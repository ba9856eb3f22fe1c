/-
  No cell of these rows narrows 'for every input' (looked for: loops, veiled, ifaces, maps, wideKeys, modest, calm, conditions, laid).
  DERIVED. THE GIVEN ROWS OF THIS SEAT. 2 by the template 'for every input the law returns true; each argument reads behind the call as it read before'; 0 by the template 'total and deterministic' (their statements: Qxb6609533aFmtTotals.lean).
  GIVEN WITH THE SEED: the statements are not yours to turn. If you find one false, say at which input.
  Laid BY PROGRAM, IN A SANDBOX (cutbox-rows.mjs): the forced cells as the released guide's own fill.sh prints them over the translation ba40007c265f1118… (all of the seat's roots in one cut). By AI agents, Wed Nov 11 2026. No macro, syntax, notation, axiom, sorry.
-/
import Derived.Test.Qxb6609533aFmtChecked
import GoSem.Claim
import GoSem.ClaimJoined
import GoSem.ClaimMapViews
import Derived.JoinedTies
import Derived.KernelRfl
namespace Go.Proofs.Qxb6609533aFmt
/- THE CELL 'sum', in the pinned program and in every row, IS THE sha256 OF THE DUMP (.gsa) THAT Qxb6609533aFmtProg.lean LOADS. Nothing in Lean hashes anything: it is a label: what it is worth is what the hold of that sum in a sandbox is worth. -/
noncomputable def Tryf.pinned : Pinned := { name := "qxb6609533afmt", sum := "ba40007c265f1118a57446b6116702b7e9dce70dbaf046c91b2284c93406698d", checked := Tryf.checked }
namespace Rows
def none {H : Type} : Left H := { results := [], args := [] }

/-- 'zzlaws_plan_b1.FnGrantNameQuotesTheID': WHATEVER THE INPUT: true; the input reads as it did. -/
def fnGrantNameQuotesTheIDSpec : ChangeSpec := { name := "fnGrantNameQuotesTheID", fn := fun _ => fun
  | [d] => { results := [.lit (.bool true)], args := [d] }
  | _ => none }
def fnGrantNameQuotesTheIDRow : OpenClaim := { program := "qxb6609533afmt", sum := "ba40007c265f1118a57446b6116702b7e9dce70dbaf046c91b2284c93406698d", func := "example.com/vestledger/vestledger/zzlaws_plan_b1.FnGrantNameQuotesTheID", spec := "fnGrantNameQuotesTheID", stops := ["fmt.Sprintf"], inPlace := ["fmt.Sprintf"], apart := false }
/-- NO THEOREM (fmt's text is open here; it may be false): for the released tool's asking of the row's closed facts alone. THE STATEMENT IS 'FnGrantNameQuotesTheIDToldSaid' (Qxb6609533aFmtCards.lean). -/
def FnGrantNameQuotesTheIDFormAsk : Prop := fnGrantNameQuotesTheIDRow.holds Tryf.pinned (OpenSpec.ofChange fnGrantNameQuotesTheIDSpec)

/-- ITS FALSE NEIGHBOUR: 'it returns false'. Refute it at one input. -/
def fnGrantNameQuotesTheIDWrong : ChangeSpec := { name := "fnGrantNameQuotesTheID", fn := fun _ => fun
  | [d] => { results := [.lit (.bool false)], args := [d] }
  | _ => none }
def FnGrantNameQuotesTheIDWrongFormAsk : Prop := fnGrantNameQuotesTheIDRow.holds Tryf.pinned (OpenSpec.ofChange fnGrantNameQuotesTheIDWrong)

/-- 'zzlaws_plan_b1.FnGrantNamePrintableASCII': WHATEVER THE INPUT: true; the input reads as it did. -/
def fnGrantNamePrintableASCIISpec : ChangeSpec := { name := "fnGrantNamePrintableASCII", fn := fun _ => fun
  | [d] => { results := [.lit (.bool true)], args := [d] }
  | _ => none }
def fnGrantNamePrintableASCIIRow : OpenClaim := { program := "qxb6609533afmt", sum := "ba40007c265f1118a57446b6116702b7e9dce70dbaf046c91b2284c93406698d", func := "example.com/vestledger/vestledger/zzlaws_plan_b1.FnGrantNamePrintableASCII", spec := "fnGrantNamePrintableASCII", stops := ["fmt.Sprintf"], inPlace := ["fmt.Sprintf"], apart := false }
/-- NO THEOREM (fmt's text is open here; it may be false): for the released tool's asking of the row's closed facts alone. THE STATEMENT IS 'FnGrantNamePrintableASCIIToldSaid' (Qxb6609533aFmtCards.lean). -/
def FnGrantNamePrintableASCIIFormAsk : Prop := fnGrantNamePrintableASCIIRow.holds Tryf.pinned (OpenSpec.ofChange fnGrantNamePrintableASCIISpec)

/-- ITS FALSE NEIGHBOUR: 'it returns false'. Refute it at one input. -/
def fnGrantNamePrintableASCIIWrong : ChangeSpec := { name := "fnGrantNamePrintableASCII", fn := fun _ => fun
  | [d] => { results := [.lit (.bool false)], args := [d] }
  | _ => none }
def FnGrantNamePrintableASCIIWrongFormAsk : Prop := fnGrantNamePrintableASCIIRow.holds Tryf.pinned (OpenSpec.ofChange fnGrantNamePrintableASCIIWrong)

end Rows
end Go.Proofs.Qxb6609533aFmt
