/-
  THE WALKS OVER zzHexVal, zzHex, zzAppendRune.
-/
import Derived.Test.Qxb6609533aFmtBuf
import Derived.Test.Qxb6609533aFmtChunks
import Derived.WalkLawsBesides
namespace Go.Proofs.Qxb6609533aFmt
open Go.RowKit Go.Extern Plain

/-- The character of a hexadecimal digit. -/
def hexChar (d : Nat) : Nat := if d < 10 then 48 + d else 87 + d

theorem hexChar_digit (d : Nat) (h : d < 16) : (FmtText.digit false d).toNat = hexChar d := by
  unfold FmtText.digit hexChar
  split <;> simp <;> omega

set_option maxHeartbeats 400000 in
theorem hexVal_low (c : Int) (w : World) (h1 : 48 ≤ c) (h2 : c ≤ 57) :
    Calls Tryf.prog 12 #[.int .u8 c] w fun e w' => e = .returned (.tuple #[.int .u32 (c - 48), .bool true]) ∧ w = w' := by
  go_enter Tryf.func12, Tryf.ntmps12
  go_wp2
  go_ret2
  exact ⟨rfl, rfl⟩

set_option maxHeartbeats 400000 in
theorem hexVal_high (c : Int) (w : World) (h1 : 97 ≤ c) (h2 : c ≤ 102) :
    Calls Tryf.prog 12 #[.int .u8 c] w fun e w' => e = .returned (.tuple #[.int .u32 (c - 97 + 10), .bool true]) ∧ w = w' := by
  go_enter Tryf.func12, Tryf.ntmps12
  go_wp2
  go_ret2
  exact ⟨rfl, rfl⟩

theorem hexVal_any (d : Nat) (hd : d < 16) (c : Int) (w : World) (hc : c = hexChar d) :
    Calls Tryf.prog 12 #[.int .u8 c] w fun e w' => e = .returned (.tuple #[.int .u32 d, .bool true]) ∧ w = w' := by
  unfold hexChar at hc
  by_cases h : d < 10
  · rw [if_pos h] at hc
    refine (hexVal_low c w (by omega) (by omega)).mono fun e w' ⟨he, hw⟩ => ⟨?_, hw⟩
    rw [he, show c - 48 = (d : Int) by omega]
  · rw [if_neg h] at hc
    refine (hexVal_high c w (by omega) (by omega)).mono fun e w' ⟨he, hw⟩ => ⟨?_, hw⟩
    rw [he, show c - 97 + 10 = (d : Int) by omega]

theorem or_nat (i a b : Nat) (hb : b < 2 ^ i) (h : 2 ^ i * a + b < 4294967296) : bits BinOp.or IntKind.u32 ((2 ^ i * a : Nat) : Int) ((b : Nat) : Int) = ((2 ^ i * a + b : Nat) : Int) := by
  rw [u32_or_nat _ _ (by omega) (by omega), Nat.two_pow_add_eq_or_of_lt hb a]

theorem or16 (V D : Nat) (hV : V < 268435456) (hD : D < 16) : bits BinOp.or IntKind.u32 ((V : Int) * 16) (D : Int) = ((V * 16 + D : Nat) : Int) := by
  have h := or_nat 4 V D (by omega) (by omega)
  have e1 : ((2 ^ 4 * V : Nat) : Int) = (V : Int) * 16 := by omega
  have e2 : 2 ^ 4 * V + D = V * 16 + D := by omega
  rw [e1, e2] at h
  exact h

theorem step_facts (r n k : Nat) (hn : n ≤ 8) (hk : k < n) (hr : r < 16 ^ n) :
    r / 16 ^ (n - k) < 268435456 ∧ r / 16 ^ (n - (k + 1)) = (r / 16 ^ (n - k)) * 16 + r / 16 ^ (n - 1 - k) % 16 := by
  obtain ⟨m, rfl⟩ : ∃ m, n = k + 1 + m := ⟨n - (k + 1), by omega⟩
  have e1 : k + 1 + m - k = m + 1 := by omega
  have e2 : k + 1 + m - (k + 1) = m := by omega
  have e3 : k + 1 + m - 1 - k = m := by omega
  rw [e1, e2, e3, Nat.pow_succ, ← Nat.div_div_eq_div_mul]
  refine ⟨?_, by omega⟩
  rw [Nat.div_div_eq_div_mul, ← Nat.pow_succ]
  apply Nat.div_lt_of_lt_mul
  refine Nat.lt_of_lt_of_le hr ?_
  rw [show k + 1 + m = (m + 1) + k by omega, Nat.pow_add]
  apply Nat.mul_le_mul_left
  calc 16 ^ k ≤ 16 ^ 7 := Nat.pow_le_pow_right (by decide) (by omega)
    _ = 268435456 := by decide

set_option maxHeartbeats 400000 in
theorem hex_any (s : ByteArray) (p n r : Nat) (w : World) (hs : s.size ≤ 100000000) (hn : n ≤ 8) (hat : p + n ≤ s.size) (hr : r < 16 ^ n)
    (hd : ∀ j (h : p + j < s.size), j < n → (s[p + j]).toNat = hexChar (r / 16 ^ (n - 1 - j) % 16)) :
    Calls Tryf.prog 10 #[.string s, .int .i64 p, .int .i64 n] w fun e w' => e = .returned (.tuple #[.int .u32 r, .bool true]) ∧ w = w' := by
  have HD : Hid (∀ j (h : p + j < s.size), j < n → (s[p + j]).toNat = hexChar (r / 16 ^ (n - 1 - j) % 16)) := hd
  have HR : Hid (r < 16 ^ n) := hr
  clear hd hr
  go_enter Tryf.func10, Tryf.ntmps10
  go_wp2
  go_loop [8, 9] (fun v i => ∃ k : Nat, k ≤ n ∧ i = .int .i64 (p + k : Nat) ∧ v = .int .u32 (r / 16 ^ (n - k) : Nat)) (fun _ i => p + n - (intOf i).toNat)
  case atStart => exact ⟨0, Nat.zero_le _, rfl, by rw [Nat.sub_zero, Nat.div_eq_of_lt HR.out]; rfl⟩
  case round =>
    obtain ⟨k, hk, rfl, rfl⟩ := hrel
    by_cases hlt : k < n
    · have hc := HD.out k (by omega) hlt
      obtain ⟨hV, hstep⟩ := step_facts r n k hn hlt HR.out
      have hD : r / 16 ^ (n - 1 - k) % 16 < 16 := Nat.mod_lt _ (by decide)
      have HS : Hid (r / 16 ^ (n - (k + 1)) = (r / 16 ^ (n - k)) * 16 + r / 16 ^ (n - 1 - k) % 16) := hstep
      clear hstep
      generalize r / 16 ^ (n - 1 - k) % 16 = D at *
      generalize r / 16 ^ (n - k) = V at *
      have HC : Hid (((s[p + k]'(by omega)).toNat : Int) = hexChar D) := by unfold Hid; rw [hc]
      clear hc
      go_wp2_with fail
      refine (hexVal_any D hD _ _ HC.out).mono ?_
      rintro e w' ⟨rfl, rfl⟩
      go_wp2
      refine ⟨⟨k + 1, by omega, by go_num, ?_⟩, ?_⟩
      · rw [or16 V D hV hD, HS.out]
      · simp [intOf]; omega
    · go_wp2
      go_ret2
      refine ⟨?_, rfl⟩
      rw [show n - k = 0 by omega]
      simp

end Go.Proofs.Qxb6609533aFmt
