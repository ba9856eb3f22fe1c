/-
  THE WALK OVER (*RefusedError).Error.
-/
import Derived.Test.Qxb6612277aFmtFacts
import Derived.WalkKit
import Derived.WalkSpells
import Derived.Deep.RegionHeld3
import Derived.Stop.JoinedTold
import Derived.Stop.FmtTextKit
import Derived.Stop.FmtTextVerbs
import Derived.Stop.Texts
namespace Go.Proofs.Qxb6612277aFmt
open Go.RowKit Go.Extern.Stop Go.Stop Go.Extern
set_option linter.unusedVariables false
attribute [local go_sem] Tryf.call22 Tryf.call23 Tryf.guard Tryf.fmt2 Tryf.fmt2r Tryf.op3_100 Tryf.op3_118 Tryf.strict3

/-- What fmt is asked. -/
def reading (n : Int) : List (List UInt8) := [[108, 101, 116, 116, 101, 114, 102, 111, 108, 100, 58, 32, 37, 100, 32, 112, 97, 114, 116, 40, 115, 41, 32, 111, 102, 32, 116, 104, 101, 32, 109, 101, 115, 115, 97, 103, 101, 32, 99, 97, 110, 110, 111, 116, 32, 98, 101, 32, 119, 114, 105, 116, 116, 101, 110, 32, 105, 110, 32, 116, 104, 101, 32, 99, 117, 114, 114, 101, 110, 116, 32, 115, 121, 110, 116, 97, 120], Tryf.shape3, dig n]
def reading1 (n : Int) : List (List UInt8) := [Tryf.shape3, dig n]

theorem errStr_any (p : Nat) (M : ByteArray) (w : World) (hM : w.cell? ⟨p, 0, none⟩ = some (.string M)) :
    Calls Tryf.prog 96 #[.pointer (some ⟨p, 0, none⟩)] w fun e w' => e = .returned (.string M) ∧ w = w' := by
  go_enter Tryf.func96, Tryf.ntmps96
  go_wp2
  go_ret
  exact ⟨rfl, rfl⟩

theorem newErr_any (M : ByteArray) (w : World) :
    Calls Tryf.prog 17 #[.string M] w fun e w' => e = .returned (.iface 61 (.pointer (some ⟨w.heap.size, 0, none⟩))) ∧ w' = w.alloc (.cells #[.string M] 63) := by
  go_enter Tryf.func17, Tryf.ntmps17
  go_wp2
  go_ret
  exact ⟨rfl, rfl⟩

set_option maxRecDepth 100000 in
set_option maxHeartbeats 400000 in
theorem err_zero (F : Interp) (E : Nat) (S1 : ByteArray) (w : World) (hF : F.answers w.tape) (hE : w.cell? ⟨E, 0, none⟩ = some (.slice none 0 0)) (hb : E < w.heap.size) (HT : Hid (FmtStop.textOf (F "fmt.Sprintf" (reading 0) 0) = S1)) :
    Calls Tryf.prog 18 #[.pointer (some ⟨E, 0, none⟩)] w fun e w' => e = .returned (.string S1) ∧ Below w.heap.size w w' := by
  have hF' := answers_open hF
  go_enter Tryf.func18, Tryf.ntmps18
  go_wp2
  go_ret
  exact ⟨congrArg (fun x => Ending.returned (Value.string x)) HT.out, ((Below.refl _ w).alloc (Nat.le_refl _) _).drew⟩

theorem add_any (a b c : ByteArray) (hc : a ++ b = c) (h : a.size + b.size ≤ 9223372036854775807) (w : World) : (Op.stringOp .add a b).run Tryf.prog w = .ok (.string c) w := by
  rw [← hc]
  exact run_string_add_sum w a b h

set_option maxRecDepth 100000 in
set_option maxHeartbeats 1600000 in
theorem err_some (F : Interp) (E g n cap p : Nat) (L : Int) (M S1 S2 : ByteArray) (w : World) (hF : F.answers w.tape) (hE : w.cell? ⟨E, 0, none⟩ = some (.slice (some ⟨g, 0, none⟩) n cap)) (hn : (0 : Int) < n) (hn2 : (n : Int) ≤ 1000000)
    (hL : w.cell? ⟨g, 0, none⟩ = some (.int .i64 L)) (hI : w.cell? ⟨g, 2, none⟩ = some (.iface 61 (.pointer (some ⟨p, 0, none⟩)))) (hM : w.cell? ⟨p, 0, none⟩ = some (.string M))
    (hbE : E < w.heap.size) (hbg : g < w.heap.size) (hbp : p < w.heap.size) (T1 T2 T3 T4 : ByteArray)
    (hT : FmtStop.textOf (F "fmt.Sprintf" [[108, 101, 116, 116, 101, 114, 102, 111, 108, 100, 58, 32, 37, 100, 32, 112, 97, 114, 116, 40, 115, 41, 32, 111, 102, 32, 116, 104, 101, 32, 109, 101, 115, 115, 97, 103, 101, 32, 99, 97, 110, 110, 111, 116, 32, 98, 101, 32, 119, 114, 105, 116, 116, 101, 110, 32, 105, 110, 32, 116, 104, 101, 32, 99, 117, 114, 114, 101, 110, 116, 32, 115, 121, 110, 116, 97, 120], Tryf.shape3, dig n] 0) = S1) (hT2 : FmtStop.textOf (F "fmt.Sprint" [Tryf.shape3, dig L] 0) = S2)
    (hA1 : ∀ w, (Op.stringOp .add ⟨#[44, 32, 116, 104, 101, 32, 102, 105, 114, 115, 116, 32, 97, 116, 32, 108, 105, 110, 101, 32]⟩ S2).run Tryf.prog w = .ok (.string T1) w)
    (hA2 : ∀ w, (Op.stringOp .add T1 ⟨#[58, 32]⟩).run Tryf.prog w = .ok (.string T2) w) (hA3 : ∀ w, (Op.stringOp .add T2 M).run Tryf.prog w = .ok (.string T3) w) (hA4 : ∀ w, (Op.stringOp .add S1 T3).run Tryf.prog w = .ok (.string T4) w) :
    Calls Tryf.prog 18 #[.pointer (some ⟨E, 0, none⟩)] w fun e w' => e = .returned (.string T4) ∧ Below w.heap.size w w' := by
  have hF' := answers_open hF
  have hnil : ∀ w, (nilAhead 233 61 (.pointer (some ⟨p, 0, none⟩)) "Error").run Tryf.prog w = .ok (some false) w := fun w => by kernel_rfl
  have hmeth : ∀ w, (method 233 61 (.pointer (some ⟨p, 0, none⟩)) "Error").run Tryf.prog w = .ok (96, .pointer (some ⟨p, 0, none⟩)) w := fun w => by kernel_rfl
  go_enter Tryf.func18, Tryf.ntmps18
  go_wp2_with fail
  go_region_held3 (fun w' => w'.cell? ⟨E, 0, none⟩ = some (.slice (some ⟨g, 0, none⟩) n cap) ∧ w'.cell? ⟨g, 0, none⟩ = some (.int .i64 L) ∧ w'.cell? ⟨g, 2, none⟩ = some (.iface 61 (.pointer (some ⟨p, 0, none⟩))) ∧ w'.cell? ⟨p, 0, none⟩ = some (.string M)) (go_keep)
    (first | (go_at_call 96; refine (errStr_any p M _ ?_).mono ?_; (simp [*]); rintro e w' ⟨rfl, rfl⟩))
  all_goals
    go_wp2
    go_ret
    exact ⟨rfl, ((((Below.refl _ w).alloc (Nat.le_refl _) _).drew.alloc (by simp) _).drew).drew⟩

end Go.Proofs.Qxb6612277aFmt
