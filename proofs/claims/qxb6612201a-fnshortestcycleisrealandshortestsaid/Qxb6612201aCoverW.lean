/-
  WALK: itemTree.cover, whatever function it is handed.
-/
import Derived.Test.Qxb6612201aSetW
namespace Go.Proofs.Qxb6612201a
open Go.RowKit
set_option linter.unusedVariables false

/-- Where the loop of 'cover' stands. -/
def CovAt (f l r : Nat) : Prop := (∃ m, f = m + 1 ∧ 2 ^ m ≤ l ∧ r ≤ 2 ^ (m + 1)) ∨ (f = 0 ∧ r ≤ l)

theorem CovAt.step {f l r : Nat} (h : CovAt (f + 1) l r) (hlr : l < r) : CovAt f ((l + l % 2) / 2) (r / 2) := by
  rcases h with ⟨m, hm, h1, h2⟩ | ⟨h0, _⟩
  · cases m with
    | zero =>
      right
      simp at h1 h2
      omega
    | succ m =>
      left
      have e1 := pow_succ_two m
      have e2 := pow_succ_two (m + 1)
      exact ⟨m, by omega, by omega, by omega⟩
  · omega

theorem CovAt.pos {f l r : Nat} (h : CovAt f l r) (hlr : l < r) : ∃ f', f = f' + 1 := by
  rcases h with ⟨m, hm, _⟩ | ⟨_, h0⟩
  · exact ⟨m, hm⟩
  · omega

set_option maxHeartbeats 3200000 in
set_option maxRecDepth 100000 in
theorem cover_any (k : Nat) (caps : Array Value) (z H lo hi : Nat) (Inv : List Nat → World → Prop) (w : World) (HZ : Hid (z = 2 ^ H)) (hz : (z : Int) ≤ 2000000) (hlh : (lo : Int) ≤ 2000000) (hh : (hi : Int) ≤ z)
    (eg : ∀ args w, (callFunc k args).run Try.prog w = .ok (.enter k args) w)
    (hcb : Hid (∀ ps p w, (∃ rest, ps ++ p :: rest = cover H lo hi) → 1 ≤ p → p < 2 * z → Inv ps w → Calls Try.prog k (#[.int .i64 p] ++ caps) w fun e w' => e = .returned (.tuple #[]) ∧ Inv (ps ++ [p]) w'))
    (hI : Hid (Inv [] (w.alloc (.cells #[.int .i64 z] 44)).drew)) :
    Calls Try.prog 16 #[.agg #[.int .i64 z], .int .i64 lo, .int .i64 hi, .func (.func k) #[] caps] w fun e w' => e = .returned (.tuple #[]) ∧ Inv (cover H lo hi) w' := by
  go_enter Try.func16, Try.ntmps16
  go_wp2
  go_region
  go_wp2_with fail
  go_loopw [8, 9] (fun vl vr wr => ∃ (f l r : Nat) (ps : List Nat), vl = .int .i64 l ∧ vr = .int .i64 r ∧ (l : Int) ≤ 4000000 ∧ (r : Int) ≤ 4000000 ∧ Hid (CovAt f l r ∧ ps ++ coverL f l r = cover H lo hi) ∧ Hid (Inv ps wr)) (fun _ vr _ => (intOf vr).toNat)
  case atStart =>
    refine ⟨H + 1, lo + z, hi + z, [], by simp, by simp, by omega, by omega, hidden ⟨.inl ⟨H, rfl, ?_, ?_⟩, ?_⟩, hI⟩
    · have := HZ.out; omega
    · have := HZ.out; have := pow_succ_two H; omega
    · rw [HZ.out]; rfl
  case round =>
    obtain ⟨f, l, r, ps, rfl, rfl, hl, hr, hC, hInv⟩ := hrel
    by_cases hlr : (l : Int) < r
    · have hlr' : l < r := by omega
      obtain ⟨f', rfl⟩ := hC.out.1.pos hlr'
      have hst := hC.out.1.step hlr'
      have hcv := hC.out.2
      rw [coverL, if_pos hlr'] at hcv
      by_cases ml : l % 2 = 1
      · rw [if_pos ml] at hcv
        have ml' : ((l : Int) % 2 == 1) = true := by rw [beq_iff_eq]; omega
        by_cases mr : r % 2 = 1
        · rw [if_pos mr] at hcv
          have mr' : ((r : Int) % 2 == 1) = true := by rw [beq_iff_eq]; omega
          have hcv' := hcv
          have rl := cover_range (H := H) (lo := lo) (hi := hi) (by have := HZ.out; omega) l (by rw [← hcv]; simp)
          have rr := cover_range (H := H) (lo := lo) (hi := hi) (by have := HZ.out; omega) (r - 1) (by rw [← hcv]; simp)
          have er : (r : Int) - 1 = ((r - 1 : Nat) : Int) := by omega
          have HCV := hidden hcv
          have HST := hidden hst
          clear hcv hcv' hst hC
          go_wp2_with fail
          refine (hcb.out ps l wr ⟨_, HCV.out⟩ rl.1 (by have := HZ.out; omega) hInv.out).mono ?_
          rintro e w1 ⟨rfl, hI1⟩
          go_wp2_with fail
          refine (hcb.out (ps ++ [l]) (r - 1) w1 ⟨_, by rw [← HCV.out]; simp; rfl⟩ rr.1 (by have := HZ.out; omega) hI1).mono ?_
          rintro e w2 ⟨rfl, hI2⟩
          go_wp2_with fail
          go_roundw
          case rel => exact ⟨f', (l + l % 2) / 2, r / 2, ((ps ++ [l]) ++ [r - 1]), by congr 1 <;> omega, by congr 1 <;> omega, by omega, by omega, hidden ⟨HST.out, by rw [← HCV.out]; simp⟩, hidden hI2⟩
          case measure => simp [intOf]; omega
        · rw [if_neg mr] at hcv
          have mr' : ((r : Int) % 2 == 1) = false := by rw [beq_eq_false_iff_ne]; omega
          have hcv' := hcv
          have rl := cover_range (H := H) (lo := lo) (hi := hi) (by have := HZ.out; omega) l (by rw [← hcv]; simp)
          have HCV := hidden hcv
          have HST := hidden hst
          clear hcv hcv' hst hC
          go_wp2_with fail
          refine (hcb.out ps l wr ⟨_, HCV.out⟩ rl.1 (by have := HZ.out; omega) hInv.out).mono ?_
          rintro e w1 ⟨rfl, hI1⟩
          go_wp2_with fail
          go_roundw
          case rel => exact ⟨f', (l + l % 2) / 2, r / 2, (ps ++ [l]), by congr 1 <;> omega, by congr 1 <;> omega, by omega, by omega, hidden ⟨HST.out, by rw [← HCV.out]; simp⟩, hidden hI1⟩
          case measure => simp [intOf]; omega
      · rw [if_neg ml] at hcv
        have ml' : ((l : Int) % 2 == 1) = false := by rw [beq_eq_false_iff_ne]; omega
        by_cases mr : r % 2 = 1
        · rw [if_pos mr] at hcv
          have mr' : ((r : Int) % 2 == 1) = true := by rw [beq_iff_eq]; omega
          have hcv' := hcv
          have rr := cover_range (H := H) (lo := lo) (hi := hi) (by have := HZ.out; omega) (r - 1) (by rw [← hcv]; simp)
          have er : (r : Int) - 1 = ((r - 1 : Nat) : Int) := by omega
          have HCV := hidden hcv
          have HST := hidden hst
          clear hcv hcv' hst hC
          go_wp2_with fail
          refine (hcb.out ps (r - 1) wr ⟨_, HCV.out⟩ rr.1 (by have := HZ.out; omega) hInv.out).mono ?_
          rintro e w2 ⟨rfl, hI2⟩
          go_wp2_with fail
          go_roundw
          case rel => exact ⟨f', (l + l % 2) / 2, r / 2, (ps ++ [r - 1]), by congr 1 <;> omega, by congr 1 <;> omega, by omega, by omega, hidden ⟨HST.out, by rw [← HCV.out]; simp⟩, hidden hI2⟩
          case measure => simp [intOf]; omega
        · rw [if_neg mr] at hcv
          have mr' : ((r : Int) % 2 == 1) = false := by rw [beq_eq_false_iff_ne]; omega
          have hcv' := hcv
          have HCV := hidden hcv
          have HST := hidden hst
          clear hcv hcv' hst hC
          go_wp2_with fail
          go_roundw
          case rel => exact ⟨f', (l + l % 2) / 2, r / 2, ps, by congr 1 <;> omega, by congr 1 <;> omega, by omega, by omega, hidden ⟨HST.out, by rw [← HCV.out]; simp⟩, hInv⟩
          case measure => simp [intOf]; omega
    · go_wp2_with fail
      go_returns
      obtain ⟨_, h2⟩ := hC.out
      rw [coverL_none (by omega), List.append_nil] at h2
      rw [← h2]
      exact ⟨rfl, hInv.out⟩

end Go.Proofs.Qxb6612201a
