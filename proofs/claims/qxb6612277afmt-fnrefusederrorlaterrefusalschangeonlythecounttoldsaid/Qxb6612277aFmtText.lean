/-
  THE TEXTS that fmt is told to give, and (*RefusedError).Error by them.
-/
import Derived.Test.Qxb6612277aFmtErr
import Derived.Stop.FmtTextWidths
namespace Go.Proofs.Qxb6612277aFmt
open Go.RowKit Go.Extern.Stop Go.Stop Go.Extern
set_option linter.unusedVariables false

def headB : List UInt8 := [108, 101, 116, 116, 101, 114, 102, 111, 108, 100, 58, 32]
def midB : List UInt8 := [32, 112, 97, 114, 116, 40, 115, 41, 32, 111, 102, 32, 116, 104, 101, 32, 109, 101, 115, 115, 97, 103, 101, 32, 99, 97, 110, 110, 111, 116, 32, 98, 101, 32, 119, 114, 105, 116, 116, 101, 110, 32, 105, 110, 32, 116, 104, 101, 32, 99, 117, 114, 114, 101, 110, 116, 32, 115, 121, 110, 116, 97, 120]
def firstB : List UInt8 := [44, 32, 116, 104, 101, 32, 102, 105, 114, 115, 116, 32, 97, 116, 32, 108, 105, 110, 101, 32]
def colB : List UInt8 := [58, 32]

/-- The first part of the text: how many parts are refused. -/
def cntText (n : Int) : List UInt8 := headB ++ (Lib.itoa n ++ midB)
/-- What follows it where there is a first one. -/
def tailText (L : Int) (M : List UInt8) : List UInt8 := firstB ++ (Lib.itoa L ++ (colB ++ M))

theorem t_parse : (FmtText.parse [108, 101, 116, 116, 101, 114, 102, 111, 108, 100, 58, 32, 37, 100, 32, 112, 97, 114, 116, 40, 115, 41, 32, 111, 102, 32, 116, 104, 101, 32, 109, 101, 115, 115, 97, 103, 101, 32, 99, 97, 110, 110, 111, 116, 32, 98, 101, 32, 119, 114, 105, 116, 116, 101, 110, 32, 105, 110, 32, 116, 104, 101, 32, 99, 117, 114, 114, 101, 110, 116, 32, 115, 121, 110, 116, 97, 120]).map FmtText.glue = some [.lit headB, .verb {} 100, .lit midB] := by rfl

theorem t_text (n : Int) (hw : (Lit.int .i64 n).wf = true) : FmtText.text "fmt.Sprintf" (reading n) = some (cntText n) := by
  have hi : FmtText.operand Tryf.shape3 (dig n) = _ := FmtText.operand_int_at (sh := Tryf.shape3) (k := .i64) rfl rfl n hw
  rw [reading, FmtText.text_sprintf_glued t_parse (FmtText.operands_cons hi FmtText.operands_nil)]
  simp [FmtText.render, FmtText.printArg_d _ _ hw, cntText]

theorem t_text1 (n : Int) (hw : (Lit.int .i64 n).wf = true) : FmtText.text "fmt.Sprint" (reading1 n) = some (Lib.itoa n) := by
  have hi : FmtText.operand Tryf.shape3 (dig n) = _ := FmtText.operand_int_at (sh := Tryf.shape3) (k := .i64) rfl rfl n hw
  rw [reading1, FmtText.text_sprint (FmtText.operands_cons hi FmtText.operands_nil)]
  simp [FmtText.doPrint, FmtText.printArg_v _ _ hw]

theorem textOf_is (F : Interp) (name : String) (r : List (List UInt8)) (t : List UInt8) (h : FmtText.text name r = some t) (hl : t.length < 2 ^ 63) : FmtStop.textOf (F.told name r 0) = ⟨t.toArray⟩ := by
  have ht := told_string F h hl
  apply ByteArray.ext
  apply Array.ext'
  rw [Go.Kit.textOf_list, ht]

theorem cnt_len (n : Int) (hw : (Lit.int .i64 n).wf = true) : (cntText n).length ≤ 100 := by
  have := FmtText.itoa_length_le hw
  simp only [cntText, List.length_append, headB, midB, List.length_cons, List.length_nil]
  omega

theorem app_list (a b : List UInt8) : (⟨a.toArray⟩ : ByteArray) ++ ⟨b.toArray⟩ = ⟨(a ++ b).toArray⟩ := by
  apply ByteArray.ext
  simp

theorem size_list (a : List UInt8) : (⟨a.toArray⟩ : ByteArray).size = a.length := by simp [ByteArray.size]

theorem err_zero_told (F : Interp) (E : Nat) (w : World) (hF : F.told.answers w.tape) (hE : w.cell? ⟨E, 0, none⟩ = some (.slice none 0 0)) (hb : E < w.heap.size) :
    Calls Tryf.prog 18 #[.pointer (some ⟨E, 0, none⟩)] w fun e w' => e = .returned (.string ⟨(cntText 0).toArray⟩) ∧ Below w.heap.size w w' :=
  err_zero F.told E _ w hF hE hb (textOf_is F _ _ _ (t_text 0 (by decide)) (by have := cnt_len 0 (by decide); omega))

theorem err_some_told (F : Interp) (E g n cap p : Nat) (L : Int) (M : List UInt8) (w : World) (hF : F.told.answers w.tape) (hE : w.cell? ⟨E, 0, none⟩ = some (.slice (some ⟨g, 0, none⟩) n cap)) (hn : (0 : Int) < n) (hn2 : (n : Int) ≤ 1000000)
    (hL : w.cell? ⟨g, 0, none⟩ = some (.int .i64 L)) (hI : w.cell? ⟨g, 2, none⟩ = some (.iface 61 (.pointer (some ⟨p, 0, none⟩)))) (hM : w.cell? ⟨p, 0, none⟩ = some (.string ⟨M.toArray⟩))
    (hbE : E < w.heap.size) (hbg : g < w.heap.size) (hbp : p < w.heap.size) (hw : (Lit.int .i64 L).wf = true) (sM : M.length ≤ 10000000) :
    Calls Tryf.prog 18 #[.pointer (some ⟨E, 0, none⟩)] w fun e w' => e = .returned (.string ⟨(cntText n ++ tailText L M).toArray⟩) ∧ Below w.heap.size w w' := by
  have hwn : (Lit.int .i64 (n : Int)).wf = true := WalkArith.wf_i64 (by omega)
  have l1 := cnt_len n hwn
  have l2 := FmtText.itoa_length_le hw
  have hT := textOf_is F _ _ _ (t_text n hwn) (by omega)
  have hT2 := textOf_is F _ _ _ (t_text1 L hw) (by omega)
  have lf : firstB.length = 20 := rfl
  have lc : colB.length = 2 := rfl
  refine err_some F.told E g n cap p L ⟨M.toArray⟩ _ _ w hF hE hn hn2 hL hI hM hbE hbg hbp ⟨(firstB ++ Lib.itoa L).toArray⟩ ⟨(firstB ++ Lib.itoa L ++ colB).toArray⟩ ⟨(firstB ++ Lib.itoa L ++ colB ++ M).toArray⟩ ⟨(cntText n ++ tailText L M).toArray⟩ hT hT2 ?_ ?_ ?_ ?_
  · exact fun w => add_any ⟨firstB.toArray⟩ _ _ (app_list _ _) (by rw [size_list, size_list]; omega) w
  · exact fun w => add_any _ ⟨colB.toArray⟩ _ (app_list _ _) (by rw [size_list, size_list]; simp only [List.length_append]; omega) w
  · exact fun w => add_any _ _ _ (app_list _ _) (by rw [size_list, size_list]; simp only [List.length_append]; omega) w
  · refine fun w => add_any _ _ _ ?_ (by rw [size_list, size_list]; simp only [List.length_append]; omega) w
    rw [app_list]
    simp [tailText]

end Go.Proofs.Qxb6612277aFmt
