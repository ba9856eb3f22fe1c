/-
  THE WALK OVER plan.GrantName, and the text that fmt is told to give.
-/
import Derived.Test.Qxb6609533aFmtFacts
import Derived.Test.Qxb6609533aFmtPlain
import Derived.WalkKit
import Derived.WalkSpells
import Derived.Stop.JoinedTold
import Derived.Stop.FmtTextKit
import Derived.Stop.FmtTextVerbs
import Derived.Stop.Texts
namespace Go.Proofs.Qxb6609533aFmt
open Go.RowKit Go.Extern.Stop Go.Stop Go.Extern
attribute [local go_sem] Tryf.call9 Tryf.guard Tryf.fmt2 Tryf.fmt2r Tryf.op9_113 Tryf.strict9

/-- What fmt is asked. -/
def reading (nm : List UInt8) : List (List UInt8) := [[103, 114, 97, 110, 116, 32, 37, 113], Tryf.shape9, FmtStop.pack nm]

set_option maxHeartbeats 400000 in
theorem grantName_any (F : Interp) (nm : ByteArray) (w : World) (hF : F.answers w.tape) :
    Calls Tryf.prog 6 #[.string nm] w fun e w' => e = .returned (.string (FmtStop.textOf (F "fmt.Sprintf" (reading nm.data.toList) 0))) ∧
      w' = (w.alloc (.cells #[.iface 9 (.string nm)] 20)).drew := by
  have hF' := answers_open hF
  go_enter Tryf.func6, Tryf.ntmps6
  go_wp2
  go_ret
  exact ⟨rfl, rfl⟩

theorem t_parse : (FmtText.parse [103, 114, 97, 110, 116, 32, 37, 113]).map FmtText.glue = some [.lit [103, 114, 97, 110, 116, 32], .verb {} 113] := by rfl

/-- The name's bytes. -/
def nameText (nm : List UInt8) : List UInt8 := [103, 114, 97, 110, 116, 32] ++ FmtText.quote false nm

theorem t_text (nm : List UInt8) (hs : nm.length < 2 ^ 64) : FmtText.text "fmt.Sprintf" (reading nm) = some (nameText nm) := by
  have hn := FmtText.operand_str_at (sh := Tryf.shape9) rfl rfl nm hs
  rw [reading, FmtText.text_sprintf_glued t_parse (FmtText.operands_cons hn FmtText.operands_nil)]
  simp [FmtText.render, FmtText.printArg_q_str, nameText]

theorem nameText_length_le (nm : List UInt8) : (nameText nm).length ≤ 10 * nm.length + 8 := by
  have := FmtText.quote_length_le nm
  simp [nameText]; omega

/-- THE CALL OF GrantName, fmt's text told. -/
theorem grantName_told (F : Interp) (nm : ByteArray) (w : World) (hF : F.told.answers w.tape) (hl : nm.size ≤ 1000000) :
    Calls Tryf.prog 6 #[.string nm] w fun e w' => e = .returned (.string ⟨(nameText nm.data.toList).toArray⟩) ∧
      w' = (w.alloc (.cells #[.iface 9 (.string nm)] 20)).drew := by
  refine (grantName_any F.told nm w hF).mono fun e w' ⟨he, hw⟩ => ⟨?_, hw⟩
  have hsz : nm.data.toList.length = nm.size := Array.length_toList
  have hle := nameText_length_le nm.data.toList
  have ht := told_string F (t_text nm.data.toList (by omega)) (by omega)
  rw [he]
  congr 2
  apply ByteArray.ext
  apply Array.ext'
  rw [Go.Kit.textOf_list, ht]

set_option maxHeartbeats 400000 in
theorem bytes8_any (id : ByteArray) (w : World) (hl : id.size ≤ maxLen) :
    Calls Tryf.prog 8 #[.string id] w fun e w' => e = .returned (.bool (decide (id.size ≤ 1048576))) ∧ w = w' := by
  unfold maxLen at hl
  by_cases h : id.size ≤ 1048576
  · go_enter Tryf.func8, Tryf.ntmps8
    go_wp2
    go_ret
    exact ⟨by simp [h], rfl⟩
  · go_enter Tryf.func8, Tryf.ntmps8
    go_wp2
    go_ret
    exact ⟨by simp [h], rfl⟩

set_option maxHeartbeats 400000 in
theorem bytes5_any (id : ByteArray) (w : World) (hl : id.size ≤ maxLen) :
    Calls Tryf.prog 5 #[.string id] w fun e w' => e = .returned (.bool (decide (id.size ≤ 1048576))) ∧ w = w' := by
  unfold maxLen at hl
  by_cases h : id.size ≤ 1048576
  · go_enter Tryf.func5, Tryf.ntmps5
    go_wp2
    go_ret
    exact ⟨by simp [h], rfl⟩
  · go_enter Tryf.func5, Tryf.ntmps5
    go_wp2
    go_ret
    exact ⟨by simp [h], rfl⟩

end Go.Proofs.Qxb6609533aFmt
