/-
  THE WALK OVER reTells.
-/
import Derived.Test.Qxb6612277aFmtScan2
import Derived.Test.Qxb6612277aFmtText
namespace Go.Proofs.Qxb6612277aFmt
open Go.RowKit
set_option linter.unusedVariables false
open Scan

theorem extract_list (t : ByteArray) (i : Nat) : (t.extract i t.size).toList = t.data.toList.drop i := by
  have hs : t.data.toList.length = t.size := Array.length_toList
  rw [Go.ByteArray.toList_eq, ByteArray.data_extract, Array.toList_extract, List.extract]
  exact List.take_of_length_le (by rw [List.length_drop, hs]; exact Nat.le_refl _)

theorem noDigit_mid : NoDigit midB := by
  intro c r h
  simp only [midB, List.cons.injEq] at h
  rw [← h.1]
  decide
theorem noDigit_mid' (l : List UInt8) : NoDigit (midB ++ l) := by
  intro c r h
  simp only [midB, List.cons_append, List.cons.injEq] at h
  rw [← h.1]
  decide
theorem noDigit_col (l : List UInt8) : NoDigit (colB ++ l) := by
  intro c r h
  simp only [colB, List.cons_append, List.cons.injEq] at h
  rw [← h.1]
  decide

set_option maxRecDepth 100000 in
set_option maxHeartbeats 1600000 in
theorem tells_zero_walk (t : ByteArray) (w : World) (ht : (t.size : Int) = 76) (H0 : Hid (t.data.toList.drop 0 = headB ++ (Lib.decDigits 0 ++ midB))) :
    Calls Tryf.prog 8 #[.string t, .int .i64 0, .int .i64 0, .string ⟨#[]⟩] w fun e w' => e = .returned (.bool true) ∧ Below w.heap.size w w' := by
  have h12 : t.data.toList.drop 12 = Lib.decDigits 0 ++ midB := drop_of_drop t 0 headB _ H0.out
  have h13 : t.data.toList.drop 13 = midB ++ [] := by
    have := drop_of_drop t 12 _ _ h12
    rw [Lib.decDigits_length] at this
    simpa [Lib.nDigits_small] using this
  have H12 := hidden h12
  have H13 := hidden h13
  clear h12 h13
  have hte : (76 : Int) = (t.size : Int) := ht.symm
  have HT := hidden ht
  clear ht
  go_enter Tryf.func8, Tryf.ntmps8
  go_wp2_with fail
  refine (reAt_is t ⟨#[108, 101, 116, 116, 101, 114, 102, 111, 108, 100, 58, 32]⟩ _ 0 _ _ rfl (Nat.zero_le _) (by have := HT.out; omega) H0.out).mono ?_
  rintro e w1 ⟨rfl, hw1⟩
  go_wp2_with fail
  refine (dec_pos_is t _ 13 12 0 midB _ rfl (by rw [Lib.nDigits_small (by decide)]; rfl) (by have := HT.out; omega) (by have := HT.out; omega) (by decide) H12.out noDigit_mid).mono ?_
  rintro e w2 ⟨rfl, rfl⟩
  go_wp2_with fail
  refine (reAt_is t ⟨#[32, 112, 97, 114, 116, 40, 115, 41, 32, 111, 102, 32, 116, 104, 101, 32, 109, 101, 115, 115, 97, 103, 101, 32, 99, 97, 110, 110, 111, 116, 32, 98, 101, 32, 119, 114, 105, 116, 116, 101, 110, 32, 105, 110, 32, 116, 104, 101, 32, 99, 117, 114, 114, 101, 110, 116, 32, 115, 121, 110, 116, 97, 120]⟩ _ 13 [] _ rfl (by have := HT.out; omega) (by have := HT.out; omega) H13.out).mono ?_
  rintro e w3 ⟨rfl, hw3⟩
  go_wp2
  go_ret
  exact ⟨rfl, hw1.trans (hw3.mono hw1.size)⟩

theorem reMag_nat (u : Nat) (w : World) (h0 : (u : Int) ≤ 9223372036854775808) (h1 : (1 : Int) ≤ u) :
    Calls Tryf.prog 19 #[.int .i64 (-(u : Int))] w fun e w' => e = .returned (.tuple #[.bool true, .int .u64 (u : Int)]) ∧ w = w' := by
  have h := reMag_neg (-(u : Int)) w (by omega) (by omega)
  rw [Int.neg_neg] at h
  exact h

set_option maxRecDepth 100000 in
set_option maxHeartbeats 1600000 in
theorem tells_one_pos (t : ByteArray) (u E : Nat) (M : List UInt8) (msg : ByteArray) (w : World) (ht : (t.size : Int) ≤ 100000000) (HE : Hid (E = 96 + Lib.nDigits u)) (hE2 : E + 2 ≤ t.size) (hE3 : 97 ≤ E) (hu : (u : Int) ≤ 9223372036854775807) 
    (H0 : Hid (t.data.toList.drop 0 = headB ++ (Lib.decDigits 1 ++ (midB ++ (firstB ++ (Lib.decDigits u ++ (colB ++ M))))))) (HM : Hid (msg.data.toList = M)) :
    Calls Tryf.prog 8 #[.string t, .int .i64 1, .int .i64 ((u : Int)), .string msg] w fun e w' => e = .returned (.bool true) ∧ Below w.heap.size w w' := by
  have h12 : t.data.toList.drop 12 = Lib.decDigits 1 ++ (midB ++ (firstB ++ (Lib.decDigits u ++ (colB ++ M)))) := drop_of_drop t 0 headB _ H0.out
  have h13 : t.data.toList.drop 13 = midB ++ (firstB ++ (Lib.decDigits u ++ (colB ++ M))) := by
    have := drop_of_drop t 12 _ _ h12
    rw [Lib.decDigits_length] at this
    simpa [Lib.nDigits_small] using this
  have h76 : t.data.toList.drop 76 = firstB ++ (Lib.decDigits u ++ (colB ++ M)) := drop_of_drop t 13 midB _ h13
  have h96 : t.data.toList.drop 96 = Lib.decDigits u ++ (colB ++ M) := drop_of_drop t 76 firstB _ h76
  have hE : t.data.toList.drop E = colB ++ M := by
    rw [HE.out]
    
    have := drop_of_drop t 96 _ _ h96
    rw [Lib.decDigits_length] at this
    exact this
  have hfin : ((t.extract (E + 2) t.size).toList == msg.toList) = true := by
    have h2 : t.data.toList.drop (E + 2) = M := drop_of_drop t E colB M hE
    rw [beq_iff_eq, extract_list, Go.ByteArray.toList_eq, HM.out, h2]
  have H12 := hidden h12
  have H13 := hidden h13
  have H76 := hidden h76
  have H96 := hidden h96
  have HEE := hidden hE
  clear h12 h13 h76 h96 hE
  go_enter Tryf.func8, Tryf.ntmps8
  go_wp2_with fail
  refine (reAt_is t ⟨#[108, 101, 116, 116, 101, 114, 102, 111, 108, 100, 58, 32]⟩ _ 0 _ _ rfl (Nat.zero_le _) ht H0.out).mono ?_
  rintro e w1 ⟨rfl, hw1⟩
  go_wp2_with fail
  refine (dec_pos_is t _ 13 12 1 _ _ rfl (by rw [Lib.nDigits_small (by decide)]; rfl) (by omega) ht (by decide) H12.out (noDigit_mid' _)).mono ?_
  rintro e w2 ⟨rfl, rfl⟩
  go_wp2_with fail
  refine (reAt_is t ⟨#[32, 112, 97, 114, 116, 40, 115, 41, 32, 111, 102, 32, 116, 104, 101, 32, 109, 101, 115, 115, 97, 103, 101, 32, 99, 97, 110, 110, 111, 116, 32, 98, 101, 32, 119, 114, 105, 116, 116, 101, 110, 32, 105, 110, 32, 116, 104, 101, 32, 99, 117, 114, 114, 101, 110, 116, 32, 115, 121, 110, 116, 97, 120]⟩ _ 13 _ _ rfl (by omega) ht H13.out).mono ?_
  rintro e w3 ⟨rfl, hw3⟩
  go_wp2_with fail
  refine (reAt_is t ⟨#[44, 32, 116, 104, 101, 32, 102, 105, 114, 115, 116, 32, 97, 116, 32, 108, 105, 110, 101, 32]⟩ _ 76 _ _ rfl (by omega) ht H76.out).mono ?_
  rintro e w4 ⟨rfl, hw4⟩
  go_wp2_with fail
  refine (dec_pos_is t _ (E : Int) 96 u _ _ rfl (by rw [HE.out]) (by omega) ht (by omega)  H96.out (noDigit_col _)).mono ?_
  rintro e w5 ⟨rfl, rfl⟩
  go_wp2_with fail
  refine (reMag_pos (u : Int) _ (by omega) (by omega)).mono ?_
  rintro e w6 ⟨rfl, rfl⟩
  go_wp2_with fail
  refine (reAt_is t ⟨#[58, 32]⟩ _ E _ _ rfl (by omega) ht HEE.out).mono ?_
  rintro e w7 ⟨rfl, hw7⟩
  go_wp2
  go_ret
  have b1 := hw1.trans (hw3.mono hw1.size)
  have b2 := b1.trans (hw4.mono b1.size)
  exact ⟨rfl, b2.trans (hw7.mono b2.size)⟩

set_option maxRecDepth 100000 in
set_option maxHeartbeats 1600000 in
theorem tells_one_neg (t : ByteArray) (u E : Nat) (M : List UInt8) (msg : ByteArray) (w : World) (ht : (t.size : Int) ≤ 100000000) (HE : Hid (E = 96 + 1 + Lib.nDigits u)) (hE2 : E + 2 ≤ t.size) (hE3 : 97 ≤ E) (hu : (u : Int) ≤ 9223372036854775808) (hu1 : (1 : Int) ≤ u)
    (H0 : Hid (t.data.toList.drop 0 = headB ++ (Lib.decDigits 1 ++ (midB ++ (firstB ++ (45 :: (Lib.decDigits u ++ (colB ++ M)))))))) (HM : Hid (msg.data.toList = M)) :
    Calls Tryf.prog 8 #[.string t, .int .i64 1, .int .i64 (-(u : Int)), .string msg] w fun e w' => e = .returned (.bool true) ∧ Below w.heap.size w w' := by
  have h12 : t.data.toList.drop 12 = Lib.decDigits 1 ++ (midB ++ (firstB ++ (45 :: (Lib.decDigits u ++ (colB ++ M))))) := drop_of_drop t 0 headB _ H0.out
  have h13 : t.data.toList.drop 13 = midB ++ (firstB ++ (45 :: (Lib.decDigits u ++ (colB ++ M)))) := by
    have := drop_of_drop t 12 _ _ h12
    rw [Lib.decDigits_length] at this
    simpa [Lib.nDigits_small] using this
  have h76 : t.data.toList.drop 76 = firstB ++ (45 :: (Lib.decDigits u ++ (colB ++ M))) := drop_of_drop t 13 midB _ h13
  have h96 : t.data.toList.drop 96 = 45 :: (Lib.decDigits u ++ (colB ++ M)) := drop_of_drop t 76 firstB _ h76
  have hE : t.data.toList.drop E = colB ++ M := by
    rw [HE.out]
    have h97 : t.data.toList.drop (96 + 1) = Lib.decDigits u ++ (colB ++ M) := drop_of_drop t 96 [45] _ h96
    have := drop_of_drop t (96 + 1) _ _ h97
    rw [Lib.decDigits_length] at this
    exact this
  have hfin : ((t.extract (E + 2) t.size).toList == msg.toList) = true := by
    have h2 : t.data.toList.drop (E + 2) = M := drop_of_drop t E colB M hE
    rw [beq_iff_eq, extract_list, Go.ByteArray.toList_eq, HM.out, h2]
  have H12 := hidden h12
  have H13 := hidden h13
  have H76 := hidden h76
  have H96 := hidden h96
  have HEE := hidden hE
  clear h12 h13 h76 h96 hE
  go_enter Tryf.func8, Tryf.ntmps8
  go_wp2_with fail
  refine (reAt_is t ⟨#[108, 101, 116, 116, 101, 114, 102, 111, 108, 100, 58, 32]⟩ _ 0 _ _ rfl (Nat.zero_le _) ht H0.out).mono ?_
  rintro e w1 ⟨rfl, hw1⟩
  go_wp2_with fail
  refine (dec_pos_is t _ 13 12 1 _ _ rfl (by rw [Lib.nDigits_small (by decide)]; rfl) (by omega) ht (by decide) H12.out (noDigit_mid' _)).mono ?_
  rintro e w2 ⟨rfl, rfl⟩
  go_wp2_with fail
  refine (reAt_is t ⟨#[32, 112, 97, 114, 116, 40, 115, 41, 32, 111, 102, 32, 116, 104, 101, 32, 109, 101, 115, 115, 97, 103, 101, 32, 99, 97, 110, 110, 111, 116, 32, 98, 101, 32, 119, 114, 105, 116, 116, 101, 110, 32, 105, 110, 32, 116, 104, 101, 32, 99, 117, 114, 114, 101, 110, 116, 32, 115, 121, 110, 116, 97, 120]⟩ _ 13 _ _ rfl (by omega) ht H13.out).mono ?_
  rintro e w3 ⟨rfl, hw3⟩
  go_wp2_with fail
  refine (reAt_is t ⟨#[44, 32, 116, 104, 101, 32, 102, 105, 114, 115, 116, 32, 97, 116, 32, 108, 105, 110, 101, 32]⟩ _ 76 _ _ rfl (by omega) ht H76.out).mono ?_
  rintro e w4 ⟨rfl, hw4⟩
  go_wp2_with fail
  refine (dec_neg_is t _ (E : Int) 96 u _ _ rfl (by rw [HE.out]) (by omega) ht (by omega) (by have := hu1; omega) H96.out (noDigit_col _)).mono ?_
  rintro e w5 ⟨rfl, rfl⟩
  go_wp2_with fail
  refine (reMag_nat u _ hu hu1).mono ?_
  rintro e w6 ⟨rfl, rfl⟩
  go_wp2_with fail
  refine (reAt_is t ⟨#[58, 32]⟩ _ E _ _ rfl (by omega) ht HEE.out).mono ?_
  rintro e w7 ⟨rfl, hw7⟩
  go_wp2
  go_ret
  have b1 := hw1.trans (hw3.mono hw1.size)
  have b2 := b1.trans (hw4.mono b1.size)
  exact ⟨rfl, b2.trans (hw7.mono b2.size)⟩

end Go.Proofs.Qxb6612277aFmt
