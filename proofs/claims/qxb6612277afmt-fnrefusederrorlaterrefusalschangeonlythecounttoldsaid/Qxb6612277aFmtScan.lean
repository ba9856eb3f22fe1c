/-
  THE WALKS OVER reAt, reDec, reMag.
-/
import Derived.Test.Qxb6612277aFmtProg
import Derived.Test.Qxb6612277aFmtDecs
import Derived.WalkKit
import Derived.WalkSpells
import Derived.WalkSmall
import Derived.WalkLawsBesides
import Derived.RegionTactic
import Derived.Deep.QuietTactic
import Derived.BigQuiet
namespace Go.Proofs.Qxb6612277aFmt
open Go.RowKit
set_option linter.unusedVariables false

namespace Scan
theorem hidden {p : Prop} (h : p) : Hid p := h

theorem getElem_of_drop (b : ByteArray) (k j : Nat) (q1 rest : List UInt8) (h : b.data.toList.drop k = q1 ++ rest) (hj : j < q1.length) (hk : k + j < b.size) : b[k + j] = q1[j] := by
  have h1 : (b.data.toList.drop k)[j]? = some q1[j] := by rw [h, List.getElem?_append_left hj, List.getElem?_eq_getElem hj]
  rw [List.getElem?_drop] at h1
  obtain ⟨_, h2⟩ := List.getElem?_eq_some_iff.1 h1
  rw [← h2]
  rfl

theorem size_of_drop (b : ByteArray) (k : Nat) (q1 rest : List UInt8) (hk : k ≤ b.size) (h : b.data.toList.drop k = q1 ++ rest) : k + q1.length + rest.length = b.size := by
  have h1 := congrArg List.length h
  rw [List.length_drop, show b.data.toList.length = b.size from Array.length_toList, List.length_append] at h1
  omega

theorem drop_of_drop (b : ByteArray) (k : Nat) (q1 rest : List UInt8) (h : b.data.toList.drop k = q1 ++ rest) : b.data.toList.drop (k + q1.length) = rest := by
  rw [← List.drop_drop, h, List.drop_left]
end Scan
open Scan

set_option maxHeartbeats 800000 in
theorem reAt_walk (t lit : ByteArray) (p : Nat) (w : World) (hp : p + lit.size ≤ t.size) (ht : (t.size : Int) ≤ 100000000) (HB : Hid (∀ k (h1 : k < lit.size) (h2 : p + k < t.size), t[p + k] = lit[k])) :
    Calls Tryf.prog 9 #[.string t, .int .i64 p, .string lit] w fun e w' => e = .returned (.bool true) ∧ Below w.heap.size w w' := by
  go_enter Tryf.func9, Tryf.ntmps9
  go_wp2
  go_loopw [7] (fun i wr => ∃ k : Nat, k ≤ lit.size ∧ i = .int .i64 k ∧ Below w.heap.size w wr) (fun i _ => lit.size - (intOf i).toNat)
  case atStart => exact ⟨0, Nat.zero_le _, rfl, Below.refl _ _⟩
  case round =>
    obtain ⟨k, hk, rfl, hw⟩ := hrel
    by_cases hlt : k < lit.size
    · have hb := HB.out k hlt (by omega)
      have hne : ((((t[p + k]'(by omega)).toNat : Nat) : Int) != (((lit[k]'hlt).toNat : Nat) : Int)) = false := by rw [hb]; simp
      clear hb
      have k0 : (0 : Int) ≤ (k : Int) := Int.natCast_nonneg _
      have k1 : (k : Int) < lit.size := by omega
      have k2 : (p : Int) + (k : Int) < t.size := by omega
      have k3 : (0 : Int) ≤ (p : Int) + (k : Int) := by omega
      have k4 : ((p : Int) + (k : Int)).toNat = p + k := by omega
      have hwr : IntKind.i64.wrap ((p : Int) + (k : Int)) = (p : Int) + (k : Int) := by simp [IntKind.wrap, IntKind.bits, IntKind.signed]; omega
      go_wp2
      go_region
      all_goals
        go_wp2
        go_roundw
        case rel => exact ⟨k + 1, by omega, by go_num, hw.drew⟩
        case measure => simp [intOf]; omega
    · go_wp2
      go_ret
      exact ⟨rfl, hw⟩

theorem reAt_is (t lit : ByteArray) (A : Int) (p : Nat) (rest : List UInt8) (w : World) (hA : A = p) (hp : p ≤ t.size) (ht : (t.size : Int) ≤ 100000000) (hd : t.data.toList.drop p = lit.data.toList ++ rest) :
    Calls Tryf.prog 9 #[.string t, .int .i64 A, .string lit] w fun e w' => e = .returned (.bool true) ∧ Below w.heap.size w w' := by
  subst hA
  have hs := size_of_drop t p _ _ hp hd
  have hl : lit.data.toList.length = lit.size := Array.length_toList
  refine reAt_walk t lit p w (by omega) ht ?_
  intro k h1 h2
  rw [getElem_of_drop t p k _ _ hd (by omega) h2]
  rfl

theorem not_add (x : Int) (h0 : -9223372036854775808 ≤ x) (h1 : x < 0) : IntKind.u64.wrap (IntKind.u64.wrap (bits BinOp.xor IntKind.i64 (-1) x) + 1) = -x := by
  have hb : bits BinOp.xor IntKind.i64 (-1) x = -x - 1 := by
    have e1 : BitVec.ofInt 64 (-1) = BitVec.allOnes 64 := by decide
    have e2 : (BitVec.ofInt 64 x).toNat = (x + 18446744073709551616).toNat := by
      rw [BitVec.toNat_ofInt]; omega
    have e3 : (BitVec.ofInt 64 (-1) ^^^ BitVec.ofInt 64 x).toNat = (-x - 1).toNat := by
      rw [e1, BitVec.allOnes_xor, BitVec.toNat_not, e2]; omega
    show IntKind.i64.wrap (((BitVec.ofInt 64 (-1) ^^^ BitVec.ofInt 64 x).toNat : Nat) : Int) = _
    rw [e3]
    simp [IntKind.wrap, IntKind.bits, IntKind.signed]
    omega
  rw [hb]
  simp [IntKind.wrap, IntKind.bits, IntKind.signed]
  omega

set_option maxHeartbeats 400000 in
theorem reMag_neg (x : Int) (w : World) (h0 : -9223372036854775808 ≤ x) (h1 : x < 0) :
    Calls Tryf.prog 19 #[.int .i64 x] w fun e w' => e = .returned (.tuple #[.bool true, .int .u64 (-x)]) ∧ w = w' := by
  go_enter Tryf.func19, Tryf.ntmps19
  go_wp2
  go_ret2
  exact ⟨congrArg (fun v => Ending.returned (.tuple #[.bool true, .int .u64 v])) (not_add x h0 h1), rfl⟩

set_option maxHeartbeats 400000 in
theorem reMag_pos (x : Int) (w : World) (h0 : 0 ≤ x) (h1 : x ≤ 9223372036854775807) :
    Calls Tryf.prog 19 #[.int .i64 x] w fun e w' => e = .returned (.tuple #[.bool false, .int .u64 x]) ∧ w = w' := by
  go_enter Tryf.func19, Tryf.ntmps19
  go_wp2
  go_ret2
  exact ⟨rfl, rfl⟩

set_option maxRecDepth 100000 in
set_option maxHeartbeats 1600000 in
theorem reDec_pos (t : ByteArray) (p u N : Nat) (w : World) (ht : (t.size : Int) ≤ 100000000) (HN : Hid (Lib.nDigits u = N)) (hN1 : 1 ≤ N) (hN19 : N ≤ 19) (hp : p + N ≤ t.size) (HU : Hid (u ≤ 9223372036854775808))
    (HD : Hid (∀ k (h : p + k < t.size), k < N → (t[p + k]).toNat = 48 + digAt u k)) (HR : Hid (∀ (h : p + N < t.size), (t[p + N]).toNat < 48 ∨ 57 < (t[p + N]).toNat)) :
    Calls Tryf.prog 10 #[.string t, .int .i64 p] w fun e w' => e = .returned (.tuple #[.bool false, .int .u64 u, .int .i64 ((p + N : Nat) : Int), .bool true]) ∧ w = w' := by
  have hm : ((((t[p]'(by omega)).toNat : Nat) : Int) == 45) = false := by
    have := HD.out 0 (by omega) (by omega)
    simp only [Nat.add_zero] at this
    rw [this, beq_eq_false_iff_ne]
    omega
  go_enter Tryf.func10, Tryf.ntmps10
  go_wp2
  go_loop [1, 4, 5] (fun i ng m => ∃ k : Nat, k ≤ N ∧ i = .int .i64 ((p + k : Nat) : Int) ∧ ng = .bool false ∧ m = .int .u64 ((upTo u k : Nat) : Int)) (fun i _ _ => p + N - (intOf i).toNat)
  case atStart => exact ⟨0, Nat.zero_le _, rfl, rfl, by rw [upTo_zero]; rfl⟩
  case round =>
    obtain ⟨k, hk, rfl, rfl, rfl⟩ := hrel
    by_cases hlt : k < N
    · have hc := HD.out k (by omega) hlt
      have hd10 := digAt_lt u k
      have hst := upTo_succ u k (by rw [HN.out]; exact hlt)
      have hle := upTo_le u k (by rw [HN.out]; exact hlt)
      have hV : ((upTo u k : Nat) : Int) ≤ 922337203685477580 := by have := HU.out; omega
      have b1 : (48 : Int) ≤ (((t[p + k]'(by omega)).toNat : Nat) : Int) := by omega
      have b2 : (((t[p + k]'(by omega)).toNat : Nat) : Int) ≤ 57 := by omega
      have HST : Hid (((upTo u (k + 1) : Nat) : Int) = ((upTo u k : Nat) : Int) * 10 + ((((t[p + k]'(by omega)).toNat : Nat) : Int) - 48)) := by
        unfold Hid
        rw [hst, hc]
        omega
      clear hc hd10 hst hle hm
      generalize upTo u k = V at *
      go_wp2
      go_round
      case rel => exact ⟨k + 1, by omega, by go_num, rfl, by rw [HST.out]⟩
      case measure => simp [intOf]; omega
    · obtain rfl : k = N := by omega
      have hU : upTo u k = u := upTo_all u k (by rw [HN.out]; exact Nat.le_refl _)
      rw [hU]
      clear hU
      have hR := HR.out
      have hf := HD.out 0 (by omega) (by omega)
      simp only [Nat.add_zero] at hf
      have hfd : 1 < k → 1 ≤ digAt u 0 := fun h => first_dig u (by rw [HN.out]; exact h)
      have e1 : ((p : Int) + (k : Int) == (p : Int)) = false := by rw [beq_eq_false_iff_ne]; omega
      have hcase : (((((t[p]'(by omega)).toNat : Nat) : Int) == 48) = true ∧ decide ((1 : Int) < (p : Int) + (k : Int) - (p : Int)) = false) ∨ (((((t[p]'(by omega)).toNat : Nat) : Int) == 48) = false) := by
        by_cases h1 : (t[p]'(by omega)).toNat = 48
        · left
          refine ⟨by rw [beq_iff_eq]; omega, ?_⟩
          by_cases h2 : 1 < k
          · have := hfd h2
            omega
          · simp
            omega
        · right
          rw [beq_eq_false_iff_ne]
          omega
      have hend : (decide ((p : Int) + (k : Int) < (t.size : Int)) = false) ∨ ∃ h : p + k < t.size, (decide ((48 : Int) ≤ (((t[p + k]'h).toNat : Nat) : Int)) = false) ∨ ((48 : Int) ≤ (((t[p + k]'h).toNat : Nat) : Int) ∧ decide ((((t[p + k]'h).toNat : Nat) : Int) ≤ 57) = false) := by
        by_cases h1 : p + k < t.size
        · right
          have := hR h1
          refine ⟨h1, ?_⟩
          by_cases h48 : (t[p + k]).toNat < 48
          · left; simp; omega
          · right; exact ⟨by omega, by simp; omega⟩
        · left
          simp
          omega
      clear hR hf hfd hm
      rcases hcase with ⟨hc0, hc⟩ | hc <;> rcases hend with he | ⟨hlt2, he | ⟨he0, he⟩⟩
      all_goals
        go_wp2
        exact bodyPost_ret (v := .tuple #[.bool false, .int .u64 u, .int .i64 ((p + k : Nat) : Int), .bool true]) (by simp [results, Tryf.results10, go_sem]) rfl ⟨rfl, rfl⟩

end Go.Proofs.Qxb6612277aFmt
