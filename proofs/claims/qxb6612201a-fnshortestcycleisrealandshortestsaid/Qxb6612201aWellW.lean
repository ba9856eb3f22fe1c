/-
  WALK: scWellFormed.
-/
import Derived.Test.Qxb6612201aTreeW
namespace Go.Proofs.Qxb6612201a
open Go.RowKit
set_option linter.unusedVariables false
set_option linter.unusedSimpArgs false

/-- A slice of integers, read only. -/
def Row (w : World) (q : IntKind) (a : Option Addr) (g n : Nat) (xs : List Int) : Prop :=
  xs.length = n ∧ (0 < n → a = some ⟨g, 0, none⟩ ∧ g < w.heap.size ∧ ∀ j, j < n → w.cell? ⟨g, j, none⟩ = some (.int q (iAt xs j)))

/-- One operation is as it should be. -/
def OpOk (n items k t lo hi : Int) : Prop :=
  0 ≤ t ∧ t < n ∧ ((k = 0 ∧ 0 ≤ lo ∧ lo < hi ∧ hi ≤ items) ∨ (k = 1 ∧ 0 ≤ lo ∧ lo < items ∧ hi = lo + 1) ∨ ((k = 3 ∨ k = 4) ∧ lo = -1 ∧ hi = -1))

structure WF (m n : Nat) (items s : Int) (ks ts los his : List Int) : Prop where
  s0 : 0 ≤ s
  sn : s < n
  ok : ∀ i, i < m → OpOk n items (iAt ks i) (iAt ts i) (iAt los i) (iAt his i)

def WellPost (mk mt ml mh n no : Nat) (items s : Int) (ks ts los his : List Int) (w : World) (e : Ending) (w' : World) : Prop :=
  ∃ b, e = .returned (.bool b) ∧ (b = true → (mt = mk ∧ ml = mk ∧ mh = mk ∧ no = n) ∧ WF mk n items s ks ts los his) ∧ w = w'

theorem well_no {mk mt ml mh n no : Nat} {items s : Int} {ks ts los his : List Int} {w : World} : WellPost mk mt ml mh n no items s ks ts los his w (.returned (.bool false)) w := ⟨false, rfl, (fun h => by cases h), rfl⟩

set_option maxHeartbeats 6400000 in
set_option maxRecDepth 100000 in
theorem well_any (ak at' al ah ao : Option Addr) (gk gt gl gh mk mt ml mh n no ck ct cl ch co : Nat) (items s : Int) (ks ts los his : List Int) (w : World) (hmk : (mk : Int) ≤ 1000000)
    (hk : Hid (Row w .i64 ak gk mk ks)) (ht : Hid (Row w .i64 at' gt mt ts)) (hl : Hid (Row w .i64 al gl ml los)) (hh : Hid (Row w .i64 ah gh mh his)) (hi0 : 0 ≤ items) (hi1 : items ≤ 1000000) :
    Calls Try.prog 6 #[.slice ak mk ck, .slice at' mt ct, .slice al ml cl, .slice ah mh ch, .int .i64 n, .slice ao no co, .int .i64 items, .int .i64 s] w fun e w' => WellPost mk mt ml mh n no items s ks ts los his w e w' := by
  by_cases c1 : mt = mk
  case neg =>
    have c1' : ((mt : Int) != (mk : Int)) = true := by rw [bne_iff_ne]; omega
    clear c1
    go_enter Try.func6, Try.ntmps6
    go_wp2_with fail
    go_returns
    exact well_no
  by_cases c2 : ml = mk
  case neg =>
    subst c1
    have c1' : ((ml : Int) != (mt : Int)) = true := by rw [bne_iff_ne]; omega
    clear c2
    go_enter Try.func6, Try.ntmps6
    go_wp2_with fail
    go_returns
    exact well_no
  by_cases c3 : mh = mk
  case neg =>
    subst c1 c2
    have c1' : ((mh : Int) != (ml : Int)) = true := by rw [bne_iff_ne]; omega
    clear c3
    go_enter Try.func6, Try.ntmps6
    go_wp2_with fail
    go_returns
    exact well_no
  subst c1 c2 c3
  by_cases c4 : no = n
  case neg =>
    have c1' : ((no : Int) != (n : Int)) = true := by rw [bne_iff_ne]; omega
    clear c4
    go_enter Try.func6, Try.ntmps6
    go_wp2_with fail
    go_returns
    exact well_no
  subst c4
  by_cases c5 : s < 0
  · go_enter Try.func6, Try.ntmps6
    go_wp2_with fail
    go_returns
    exact well_no
  by_cases c6 : (no : Int) ≤ s
  · go_enter Try.func6, Try.ntmps6
    go_wp2_with fail
    go_returns
    exact well_no
  go_enter Try.func6, Try.ntmps6
  go_wp2_with fail
  go_loopw [17] (fun v wr => ∃ i : Nat, v = .int .i64 i ∧ i ≤ mh ∧ Hid (∀ j, j < i → OpOk no items (iAt ks j) (iAt ts j) (iAt los j) (iAt his j)) ∧ w = wr) (fun v _ => mh - (intOf v).toNat)
  case atStart => exact ⟨0, rfl, Nat.zero_le _, hidden (fun j hj => by omega), rfl⟩
  case round =>
    obtain ⟨i, rfl, hi, hok, rfl⟩ := hrel
    by_cases hlt : (i : Int) < mh
    · obtain ⟨rfl, _, e1⟩ := hk.out.2 (by omega)
      obtain ⟨rfl, _, e2⟩ := ht.out.2 (by omega)
      obtain ⟨rfl, _, e3⟩ := hl.out.2 (by omega)
      obtain ⟨rfl, _, e4⟩ := hh.out.2 (by omega)
      replace e1 := e1 i (by omega)
      replace e2 := e2 i (by omega)
      replace e3 := e3 i (by omega)
      replace e4 := e4 i (by omega)
      have b0 : (0 : Int) ≤ (i : Int) := by omega
      obtain ⟨k, hkk⟩ : ∃ k, k = iAt ks i := ⟨_, rfl⟩
      obtain ⟨t, htt⟩ : ∃ k, k = iAt ts i := ⟨_, rfl⟩
      obtain ⟨lo, hll⟩ : ∃ k, k = iAt los i := ⟨_, rfl⟩
      obtain ⟨hi', hhh⟩ : ∃ k, k = iAt his i := ⟨_, rfl⟩
      rw [← hkk] at e1
      rw [← htt] at e2
      rw [← hll] at e3
      rw [← hhh] at e4
      have hnext : Hid (OpOk no items k t lo hi' → ∀ j, j < i + 1 → OpOk no items (iAt ks j) (iAt ts j) (iAt los j) (iAt his j)) := hidden (fun h j hj => by
        by_cases hji : j = i
        · subst hji; rw [← hkk, ← htt, ← hll, ← hhh]; exact h
        · exact hok.out j (by omega))
      clear hkk htt hll hhh
      go_wp2_with fail
      all_goals first
        | (go_returns; exact well_no)
        | (refine ⟨⟨i + 1, by go_num, by omega, hidden (hnext.out ?_), trivial⟩, by simp [intOf]; omega⟩
           simp only [beq_iff_eq, bne_eq_false_iff_eq, beq_eq_false_iff_ne] at *
           unfold OpOk
           omega)
    · go_wp2_with fail
      go_returns
      have : i = mh := by omega
      subst this
      exact ⟨true, rfl, fun _ => ⟨⟨rfl, rfl, rfl, rfl⟩, ⟨by omega, by omega, hok.out⟩⟩, rfl⟩

end Go.Proofs.Qxb6612201a
