/-
  THE WALK OVER reDec at a negative number; the two in one.
-/
import Derived.Test.Qxb6612277aFmtScan
namespace Go.Proofs.Qxb6612277aFmt
open Go.RowKit
set_option linter.unusedVariables false
open Scan

set_option maxRecDepth 100000 in
set_option maxHeartbeats 1600000 in
theorem reDec_neg (t : ByteArray) (p u N : Nat) (w : World) (ht : (t.size : Int) ≤ 100000000) (HN : Hid (Lib.nDigits u = N)) (hN1 : 1 ≤ N) (hN19 : N ≤ 19) (hp : p + 1 + N ≤ t.size) (hu1 : ((u : Int) == 0) = false) (hm : ((((t[p]'(by omega)).toNat : Nat) : Int) == 45) = true) (HU : Hid (u ≤ 9223372036854775808))
    (HD : Hid (∀ k (h : p + 1 + k < t.size), k < N → (t[p + 1 + k]).toNat = 48 + digAt u k)) (HR : Hid (∀ (h : p + 1 + N < t.size), (t[p + 1 + N]).toNat < 48 ∨ 57 < (t[p + 1 + N]).toNat)) :
    Calls Tryf.prog 10 #[.string t, .int .i64 p] w fun e w' => e = .returned (.tuple #[.bool true, .int .u64 u, .int .i64 ((p + 1 + N : Nat) : Int), .bool true]) ∧ w = w' := by
  go_enter Tryf.func10, Tryf.ntmps10
  go_wp2
  go_loop [1, 4, 5] (fun i ng m => ∃ k : Nat, k ≤ N ∧ i = .int .i64 ((p + 1 + k : Nat) : Int) ∧ ng = .bool true ∧ m = .int .u64 ((upTo u k : Nat) : Int)) (fun i _ _ => p + 1 + N - (intOf i).toNat)
  case atStart => exact ⟨0, Nat.zero_le _, rfl, rfl, by rw [upTo_zero]; rfl⟩
  case round =>
    obtain ⟨k, hk, rfl, rfl, rfl⟩ := hrel
    by_cases hlt : k < N
    · have hc := HD.out k (by omega) hlt
      have hd10 := digAt_lt u k
      have hst := upTo_succ u k (by rw [HN.out]; exact hlt)
      have hle := upTo_le u k (by rw [HN.out]; exact hlt)
      have hV : ((upTo u k : Nat) : Int) ≤ 922337203685477580 := by have := HU.out; omega
      have b1 : (48 : Int) ≤ (((t[p + 1 + k]'(by omega)).toNat : Nat) : Int) := by omega
      have b2 : (((t[p + 1 + k]'(by omega)).toNat : Nat) : Int) ≤ 57 := by omega
      have HST : Hid (((upTo u (k + 1) : Nat) : Int) = ((upTo u k : Nat) : Int) * 10 + ((((t[p + 1 + k]'(by omega)).toNat : Nat) : Int) - 48)) := by
        unfold Hid
        rw [hst, hc]
        omega
      clear hc hd10 hst hle
      generalize upTo u k = V at *
      go_wp2
      go_round
      case rel => exact ⟨k + 1, by omega, by go_num, rfl, by rw [HST.out]⟩
      case measure => simp [intOf]; omega
    · obtain rfl : k = N := by omega
      have hU : upTo u k = u := upTo_all u k (by rw [HN.out]; exact Nat.le_refl _)
      rw [hU]
      clear hU
      have hR := HR.out
      have hf := HD.out 0 (by omega) (by omega)
      simp only [Nat.add_zero] at hf
      have hfd : 1 < k → 1 ≤ digAt u 0 := fun h => first_dig u (by rw [HN.out]; exact h)
      have e1 : ((p : Int) + 1 + (k : Int) == (p : Int) + 1) = false := by rw [beq_eq_false_iff_ne]; omega
      have hcase : (((((t[p + 1]'(by omega)).toNat : Nat) : Int) == 48) = true ∧ decide ((1 : Int) < (p : Int) + 1 + (k : Int) - ((p : Int) + 1)) = false) ∨ (((((t[p + 1]'(by omega)).toNat : Nat) : Int) == 48) = false) := by
        by_cases h1 : (t[p + 1]'(by omega)).toNat = 48
        · left
          refine ⟨by rw [beq_iff_eq]; omega, ?_⟩
          by_cases h2 : 1 < k
          · have := hfd h2
            omega
          · simp
            omega
        · right
          rw [beq_eq_false_iff_ne]
          omega
      have hend : (decide ((p : Int) + 1 + (k : Int) < (t.size : Int)) = false) ∨ ∃ h : p + 1 + k < t.size, (decide ((48 : Int) ≤ (((t[p + 1 + k]'h).toNat : Nat) : Int)) = false) ∨ ((48 : Int) ≤ (((t[p + 1 + k]'h).toNat : Nat) : Int) ∧ decide ((((t[p + 1 + k]'h).toNat : Nat) : Int) ≤ 57) = false) := by
        by_cases h1 : p + 1 + k < t.size
        · right
          have := hR h1
          refine ⟨h1, ?_⟩
          by_cases h48 : (t[p + 1 + k]).toNat < 48
          · left; simp; omega
          · right; exact ⟨by omega, by simp; omega⟩
        · left
          simp
          omega
      clear hR hf hfd
      rcases hcase with ⟨hc0, hc⟩ | hc <;> rcases hend with he | ⟨hlt2, he | ⟨he0, he⟩⟩
      all_goals
        go_wp2
        exact bodyPost_ret (v := .tuple #[.bool true, .int .u64 u, .int .i64 ((p + 1 + k : Nat) : Int), .bool true]) (by simp [results, Tryf.results10, go_sem]) rfl ⟨rfl, rfl⟩

/-- What follows a number is no digit. -/
def NoDigit (rest : List UInt8) : Prop := ∀ c r, rest = c :: r → c.toNat < 48 ∨ 57 < c.toNat

theorem dec_pos_is (t : ByteArray) (A B : Int) (p u : Nat) (rest : List UInt8) (w : World) (hA : A = p) (hB : B = ((p + Lib.nDigits u : Nat) : Int)) (hp : p ≤ t.size) (ht : (t.size : Int) ≤ 100000000) (hu : u ≤ 9223372036854775808)
    (hd : t.data.toList.drop p = Lib.decDigits u ++ rest) (hr : NoDigit rest) :
    Calls Tryf.prog 10 #[.string t, .int .i64 A] w fun e w' => e = .returned (.tuple #[.bool false, .int .u64 u, .int .i64 B, .bool true]) ∧ w = w' := by
  subst hA hB
  have hs := size_of_drop t p _ _ hp hd
  have hl := Lib.decDigits_length u
  refine reDec_pos t p u (Lib.nDigits u) w ht rfl (Lib.nDigits_pos u) (nDigits_19 u hu) (by omega) hu ?_ ?_
  · intro k h hk
    rw [getElem_of_drop t p k _ _ hd (by omega) h, digs_get u k (by omega)]
  · intro h
    have hd2 := drop_of_drop t p _ _ hd
    rw [hl] at hd2
    cases rest with
    | nil => simp at hs; omega
    | cons c r =>
      have hd3 : t.data.toList.drop (p + Lib.nDigits u) = [c] ++ r := hd2
      have := getElem_of_drop t (p + Lib.nDigits u) 0 [c] r hd3 (by simp) (by omega)
      simp only [Nat.add_zero] at this
      rw [this]
      exact hr c r rfl

theorem dec_neg_is (t : ByteArray) (A B : Int) (p u : Nat) (rest : List UInt8) (w : World) (hA : A = p) (hB : B = ((p + 1 + Lib.nDigits u : Nat) : Int)) (hp : p ≤ t.size) (ht : (t.size : Int) ≤ 100000000) (hu : u ≤ 9223372036854775808) (hu1 : 1 ≤ u)
    (hd : t.data.toList.drop p = 45 :: (Lib.decDigits u ++ rest)) (hr : NoDigit rest) :
    Calls Tryf.prog 10 #[.string t, .int .i64 A] w fun e w' => e = .returned (.tuple #[.bool true, .int .u64 u, .int .i64 B, .bool true]) ∧ w = w' := by
  subst hA hB
  have hd0 : t.data.toList.drop p = [45] ++ (Lib.decDigits u ++ rest) := hd
  have hs := size_of_drop t p _ _ hp hd0
  have hd1 : t.data.toList.drop (p + 1) = Lib.decDigits u ++ rest := drop_of_drop t p [45] _ hd0
  have hl := Lib.decDigits_length u
  simp only [List.length_append, List.length_cons, List.length_nil] at hs
  have hm : t[p]'(by omega) = 45 := getElem_of_drop t p 0 [45] _ hd0 (by simp) (by omega)
  refine reDec_neg t p u (Lib.nDigits u) w ht rfl (Lib.nDigits_pos u) (nDigits_19 u hu) (by omega) (by rw [beq_eq_false_iff_ne]; omega) (by rw [hm]; rfl) hu ?_ ?_
  · intro k h hk
    rw [getElem_of_drop t (p + 1) k _ _ hd1 (by omega) h, digs_get u k (by omega)]
  · intro h
    have hd2 := drop_of_drop t (p + 1) _ _ hd1
    rw [hl] at hd2
    cases rest with
    | nil => simp at hs; omega
    | cons c r =>
      have hd3 : t.data.toList.drop (p + 1 + Lib.nDigits u) = [c] ++ r := hd2
      have := getElem_of_drop t (p + 1 + Lib.nDigits u) 0 [c] r hd3 (by simp) (by omega)
      simp only [Nat.add_zero] at this
      rw [this]
      exact hr c r rfl

end Go.Proofs.Qxb6612277aFmt
