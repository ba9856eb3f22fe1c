/-
  PLAIN LAWS on decimal digits, no Go in sight.
-/
import Derived.Lib.ItoaMem
namespace Go.Proofs.Qxb6612277aFmt
open Go.Lib

/-- Digit k (from the front) of u. -/
def digAt (u k : Nat) : Nat := u / 10 ^ (nDigits u - 1 - k) % 10

theorem nDigits_le : ∀ (m u : Nat), 1 ≤ m → u < 10 ^ m → nDigits u ≤ m
  | 0, _, h, _ => by omega
  | 1, u, _, h => by rw [nDigits_small (by simpa using h)]; exact Nat.le_refl _
  | m + 2, u, _, h => by
    by_cases h0 : u < 10
    · rw [nDigits_small h0]; omega
    · rw [nDigits_big h0]
      have := nDigits_le (m + 1) (u / 10) (by omega) (by rw [Nat.pow_succ] at h; omega)
      omega

theorem nDigits_19 (u : Nat) (h : u ≤ 9223372036854775808) : nDigits u ≤ 19 := nDigits_le 19 u (by decide) (by omega)

theorem pow_le_of_big : ∀ (u : Nat), 1 < nDigits u → 10 ^ (nDigits u - 1) ≤ u := by
  intro u
  induction u using Nat.strongRecOn with
  | _ u ih =>
    intro h
    have h10 : ¬ u < 10 := fun h0 => by rw [nDigits_small h0] at h; omega
    rw [nDigits_big h10] at h ⊢
    by_cases h1 : 1 < nDigits (u / 10)
    · have := ih (u / 10) (by omega) h1
      have e : nDigits (u / 10) + 1 - 1 = (nDigits (u / 10) - 1) + 1 := by omega
      rw [e, Nat.pow_succ]
      omega
    · have h1' : nDigits (u / 10) = 1 := by have := nDigits_pos (u / 10); omega
      rw [h1']
      simp
      omega

theorem digs_get (u k : Nat) (h : k < (decDigits u).length) : ((decDigits u)[k]).toNat = 48 + digAt u k := by
  have he : (decDigits u)[k]? = some (dg u (nDigits u - 1 - k)) := by
    rw [decDigits_eq, List.getElem?_map, List.getElem?_range (by rw [← decDigits_length]; exact h)]
    rfl
  have h2 : (decDigits u)[k] = dg u (nDigits u - 1 - k) := by
    rw [List.getElem?_eq_getElem h] at he
    simpa using he
  rw [h2]
  unfold dg digAt
  have : u / 10 ^ (nDigits u - 1 - k) % 10 < 10 := Nat.mod_lt _ (by decide)
  simp
  omega

theorem digAt_lt (u k : Nat) : digAt u k < 10 := Nat.mod_lt _ (by decide)

theorem first_dig (u : Nat) (h : 1 < nDigits u) : 1 ≤ digAt u 0 := by
  unfold digAt
  have h1 := pow_le_of_big u h
  have h2 := lt_pow_nDigits u
  have e : nDigits u = (nDigits u - 1) + 1 := by omega
  rw [e, Nat.pow_succ] at h2
  have hpos : 0 < 10 ^ (nDigits u - 1) := Nat.pow_pos (by decide)
  have q1 : 1 ≤ u / 10 ^ (nDigits u - 1) := (Nat.le_div_iff_mul_le hpos).2 (by omega)
  have q2 : u / 10 ^ (nDigits u - 1) < 10 := Nat.div_lt_of_lt_mul (by omega)
  rw [Nat.sub_zero, Nat.mod_eq_of_lt q2]
  exact q1

/-- The number that the first k digits make. -/
def upTo (u k : Nat) : Nat := u / 10 ^ (nDigits u - k)

theorem upTo_zero (u : Nat) : upTo u 0 = 0 := by
  unfold upTo
  rw [Nat.sub_zero]
  exact Nat.div_eq_of_lt (lt_pow_nDigits u)
theorem upTo_all (u k : Nat) (h : nDigits u ≤ k) : upTo u k = u := by
  unfold upTo
  rw [show nDigits u - k = 0 by omega]
  simp
theorem upTo_succ (u k : Nat) (h : k < nDigits u) : upTo u (k + 1) = upTo u k * 10 + digAt u k := by
  unfold upTo digAt
  have e1 : nDigits u - k = (nDigits u - 1 - k) + 1 := by omega
  have e2 : nDigits u - (k + 1) = nDigits u - 1 - k := by omega
  rw [e1, e2, Nat.pow_succ, ← Nat.div_div_eq_div_mul]
  omega
theorem upTo_le (u k : Nat) (h : k < nDigits u) : upTo u k ≤ u / 10 := by
  unfold upTo
  have e1 : nDigits u - k = (nDigits u - 1 - k) + 1 := by omega
  rw [e1, Nat.pow_succ, Nat.mul_comm, ← Nat.div_div_eq_div_mul]
  exact Nat.div_le_self _ _

end Go.Proofs.Qxb6612277aFmt
