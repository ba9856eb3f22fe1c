/-
  No cell of these rows narrows 'for every input' (looked for: loops, veiled, ifaces, maps, wideKeys, modest, calm, conditions, laid).
  DERIVED. THE GIVEN ROWS OF THIS SEAT. 3 by the template 'for every input the law returns true; each argument reads behind the call as it read before'; 0 by the template 'total and deterministic' (their statements: Qxb6612278aTotals.lean).
  GIVEN WITH THE SEED: the statements are not yours to turn. If you find one false, say at which input.
  Laid BY PROGRAM, IN A SANDBOX (cutbox-rows.mjs): the forced cells as the released guide's own fill.sh prints them over the translation 7a4b173650f774d6… (all of the seat's roots in one cut). By AI agents, Wed Nov 11 2026. No macro, syntax, notation, axiom, sorry.
-/
import Derived.Test.Qxb6612278aChecked
import GoSem.Claim
import GoSem.ClaimJoined
import GoSem.ClaimMapViews
import Derived.JoinedTies
import Derived.KernelRfl
namespace Go.Proofs.Qxb6612278a
/- THE CELL 'sum', in the pinned program and in every row, IS THE sha256 OF THE DUMP (.gsa) THAT Qxb6612278aProg.lean LOADS. Nothing in Lean hashes anything: it is a label: what it is worth is what the hold of that sum in a sandbox is worth. -/
noncomputable def Try.pinned : Pinned := { name := "qxb6612278a", sum := "7a4b173650f774d67d3d3ef72fe4cb00a2105757e170a41d854306dc03e34169", checked := Try.checked }
namespace Rows
def none {H : Type} : Left H := { results := [], args := [] }

/-- 'zzlaws_root_b1.FnEndsBlockExactlyTheTail': WHATEVER THE INPUT: true; the input reads as it did. -/
def fnEndsBlockExactlyTheTailSpec : ChangeSpec := { name := "fnEndsBlockExactlyTheTail", fn := fun _ => fun
  | [d1, d2, d3, d4] => { results := [.lit (.bool true)], args := [d1, d2, d3, d4] }
  | _ => none }
def fnEndsBlockExactlyTheTailRow : OpenClaim := { program := "qxb6612278a", sum := "7a4b173650f774d67d3d3ef72fe4cb00a2105757e170a41d854306dc03e34169", func := "example.com/binograph/binograph/zzlaws_root_b1.FnEndsBlockExactlyTheTail", spec := "fnEndsBlockExactlyTheTail", apart := false }
def FnEndsBlockExactlyTheTailSaid : Prop := fnEndsBlockExactlyTheTailRow.holds Try.pinned (OpenSpec.ofChange fnEndsBlockExactlyTheTailSpec)

/-- ITS FALSE NEIGHBOUR: 'it returns false'. Refute it at one input. -/
def fnEndsBlockExactlyTheTailWrong : ChangeSpec := { name := "fnEndsBlockExactlyTheTail", fn := fun _ => fun
  | [d1, d2, d3, d4] => { results := [.lit (.bool false)], args := [d1, d2, d3, d4] }
  | _ => none }
def FnEndsBlockExactlyTheTailWrongFalsely : Prop := fnEndsBlockExactlyTheTailRow.holds Try.pinned (OpenSpec.ofChange fnEndsBlockExactlyTheTailWrong)

/-- 'zzlaws_root_b1.FnInt32AtIsSignedBigEndian': WHATEVER THE INPUT: true; the input reads as it did. -/
def fnInt32AtIsSignedBigEndianSpec : ChangeSpec := { name := "fnInt32AtIsSignedBigEndian", fn := fun _ => fun
  | [d] => { results := [.lit (.bool true)], args := [d] }
  | _ => none }
def fnInt32AtIsSignedBigEndianRow : OpenClaim := { program := "qxb6612278a", sum := "7a4b173650f774d67d3d3ef72fe4cb00a2105757e170a41d854306dc03e34169", func := "example.com/binograph/binograph/zzlaws_root_b1.FnInt32AtIsSignedBigEndian", spec := "fnInt32AtIsSignedBigEndian", named := ["encoding/binary.BigEndian"], apart := false }
def FnInt32AtIsSignedBigEndianSaid : Prop := fnInt32AtIsSignedBigEndianRow.holds Try.pinned (OpenSpec.ofChange fnInt32AtIsSignedBigEndianSpec)

/-- ITS FALSE NEIGHBOUR: 'it returns false'. Refute it at one input. -/
def fnInt32AtIsSignedBigEndianWrong : ChangeSpec := { name := "fnInt32AtIsSignedBigEndian", fn := fun _ => fun
  | [d] => { results := [.lit (.bool false)], args := [d] }
  | _ => none }
def FnInt32AtIsSignedBigEndianWrongFalsely : Prop := fnInt32AtIsSignedBigEndianRow.holds Try.pinned (OpenSpec.ofChange fnInt32AtIsSignedBigEndianWrong)

/-- 'zzlaws_root_b1.FnInt32AtReadsBackItsEncoding': WHATEVER THE INPUT: true; the input reads as it did. -/
def fnInt32AtReadsBackItsEncodingSpec : ChangeSpec := { name := "fnInt32AtReadsBackItsEncoding", fn := fun _ => fun
  | [d1, d2] => { results := [.lit (.bool true)], args := [d1, d2] }
  | _ => none }
def fnInt32AtReadsBackItsEncodingRow : OpenClaim := { program := "qxb6612278a", sum := "7a4b173650f774d67d3d3ef72fe4cb00a2105757e170a41d854306dc03e34169", func := "example.com/binograph/binograph/zzlaws_root_b1.FnInt32AtReadsBackItsEncoding", spec := "fnInt32AtReadsBackItsEncoding", named := ["encoding/binary.BigEndian"], apart := false }
def FnInt32AtReadsBackItsEncodingSaid : Prop := fnInt32AtReadsBackItsEncodingRow.holds Try.pinned (OpenSpec.ofChange fnInt32AtReadsBackItsEncodingSpec)

/-- ITS FALSE NEIGHBOUR: 'it returns false'. Refute it at one input. -/
def fnInt32AtReadsBackItsEncodingWrong : ChangeSpec := { name := "fnInt32AtReadsBackItsEncoding", fn := fun _ => fun
  | [d1, d2] => { results := [.lit (.bool false)], args := [d1, d2] }
  | _ => none }
def FnInt32AtReadsBackItsEncodingWrongFalsely : Prop := fnInt32AtReadsBackItsEncodingRow.holds Try.pinned (OpenSpec.ofChange fnInt32AtReadsBackItsEncodingWrong)

end Rows
end Go.Proofs.Qxb6612278a
