/-
  PLAIN LAWS, no Go in sight: what '%q' writes for printable ASCII.
-/
import Derived.Stop.FmtQuoteTie
import Derived.Laws.RangeString
namespace Go.Proofs.Qxb6609533aFmt.Plain
open Go.Extern

/-- The bytes with a backslash ahead of each quote and backslash. -/
def escA : List UInt8 → List UInt8
  | [] => []
  | c :: t => (if c = 34 ∨ c = 92 then [92, c] else [c]) ++ escA t

theorem escA_append (a b : List UInt8) : escA (a ++ b) = escA a ++ escA b := by
  induction a with
  | nil => rfl
  | cons c t ih => simp [escA, ih]

theorem escA_length_le (a : List UInt8) : (escA a).length ≤ 2 * a.length := by
  induction a with
  | nil => simp [escA]
  | cons c t ih =>
    simp only [escA, List.length_append, List.length_cons]
    split <;> simp <;> omega

theorem escRune_ascii (c : UInt8) (h1 : 32 ≤ c.toNat) (h2 : c.toNat ≤ 126) :
    FmtText.escRune 34 false c.toNat = if c = 34 ∨ c = 92 then [92, c] else [c] := by
  unfold FmtText.escRune
  have e34 : c = 34 ↔ c.toNat = 34 := by rw [← UInt8.toNat_inj]; rfl
  have e92 : c = 92 ↔ c.toNat = 92 := by rw [← UInt8.toNat_inj]; rfl
  by_cases hc : c.toNat = 34 ∨ c.toNat = 92
  · have hb : (c.toNat == 34 || c.toNat == 92) = true := by simpa using hc
    rw [if_pos hb, if_pos (by rw [e34, e92]; exact hc)]
    simp
  · have hb : ¬ (c.toNat == 34 || c.toNat == 92) = true := by simpa using hc
    have hc' : ¬ (c = 34 ∨ c = 92) := by rw [e34, e92]; exact hc
    rw [if_neg hb, if_neg hc']
    have hp : FmtText.isPrint c.toNat = true := by
      unfold FmtText.isPrint
      rw [if_pos (by omega)]
      simp; omega
    simp only [Bool.false_eq_true, if_false, hp, if_true]
    rw [FmtText.enc1 _ (by omega)]
    simp

theorem quoteFrom_ascii (l : List UInt8) (hl : ∀ c ∈ l, 32 ≤ c.toNat ∧ c.toNat ≤ 126) :
    ∀ (fuel pos : Nat), l.length - pos ≤ fuel → FmtText.quoteFrom 34 false (FmtText.arr l) fuel pos = escA (l.drop pos)
  | 0, pos, h => by
    rw [List.drop_eq_nil_of_le (by omega)]
    rfl
  | fuel + 1, pos, h => by
    have hs : (FmtText.arr l).size = l.length := by simp [FmtText.arr, ByteArray.size]
    unfold FmtText.quoteFrom
    by_cases hp : pos < l.length
    · have hp' : pos < (FmtText.arr l).size := by omega
      have he : (FmtText.arr l)[pos]'hp' = l[pos] := by
        have h1 : (FmtText.arr l)[pos]'hp' = l.toArray[pos]'(by simpa using hp) := rfl
        exact h1
      have hc := hl l[pos] (List.getElem_mem hp)
      have hd := decode_ascii (FmtText.arr l) pos hp' (by rw [he]; omega)
      rw [he] at hd
      rw [if_pos hp', hd]
      have hb : ¬ ((1 : Nat) == 1 && l[pos].toNat == 65533) = true := by simp; omega
      simp only []
      rw [if_neg hb, quoteFrom_ascii l hl fuel (pos + 1) (by omega), List.drop_eq_getElem_cons hp, escRune_ascii _ hc.1 hc.2]
      rfl
    · rw [if_neg (by omega), List.drop_eq_nil_of_le (by omega)]
      rfl

theorem quote_ascii (l : List UInt8) (hl : ∀ c ∈ l, 32 ≤ c.toNat ∧ c.toNat ≤ 126) : FmtText.quote false l = 34 :: (escA l ++ [34]) := by
  unfold FmtText.quote
  rw [quoteFrom_ascii l hl l.length 0 (by omega)]
  simp

end Go.Proofs.Qxb6609533aFmt.Plain
