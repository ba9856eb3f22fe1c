/-
  THE WALK OVER zzUnquote at a quoted text.
-/
import Derived.Test.Qxb6609533aFmtRune
namespace Go.Proofs.Qxb6609533aFmt
open Go.RowKit Go.Extern Plain

theorem hidden {p : Prop} (h : p) : Hid p := h

theorem getElem_of_drop (b : ByteArray) (k j : Nat) (q1 rest : List UInt8) (h : b.data.toList.drop k = q1 ++ rest) (hj : j < q1.length) (hk : k + j < b.size) : b[k + j] = q1[j] := by
  have h1 : (b.data.toList.drop k)[j]? = some q1[j] := by rw [h, List.getElem?_append_left hj, List.getElem?_eq_getElem hj]
  rw [List.getElem?_drop] at h1
  obtain ⟨_, h2⟩ := List.getElem?_eq_some_iff.1 h1
  rw [← h2]
  rfl

theorem size_of_drop (b : ByteArray) (k : Nat) (q1 rest : List UInt8) (hk : k ≤ b.size) (h : b.data.toList.drop k = q1 ++ rest) : k + q1.length + rest.length = b.size := by
  have h1 := congrArg List.length h
  rw [List.length_drop, show b.data.toList.length = b.size from Array.length_toList, List.length_append] at h1
  omega

theorem drop_of_drop (b : ByteArray) (k : Nat) (q1 rest : List UInt8) (h : b.data.toList.drop k = q1 ++ rest) : b.data.toList.drop (k + q1.length) = rest := by
  rw [← List.drop_drop, h, List.drop_left]

theorem hex_at (s : ByteArray) (p n r : Nat) (A N : Int) (hA : A = p) (hN : N = n) (rest pre : List UInt8) (w : World) (hs : s.size ≤ 100000000) (hn : n ≤ 8) (k : Nat) (hk : k ≤ s.size) (hr : r < 16 ^ n)
    (hp : p = k + pre.length) (hd : s.data.toList.drop k = (pre ++ FmtText.hexDigits r n) ++ rest) :
    Calls Tryf.prog 10 #[.string s, .int .i64 A, .int .i64 N] w fun e w' => e = .returned (.tuple #[.int .u32 r, .bool true]) ∧ w = w' := by
  subst hA hN
  have hlen : ∀ n, (FmtText.hexDigits r n).length = n := by
    intro n
    induction n with
    | zero => rfl
    | succ n ih => simp [FmtText.hexDigits, ih]
  have hget : ∀ n j (h : j < (FmtText.hexDigits r n).length), ((FmtText.hexDigits r n)[j]).toNat = hexChar (r / 16 ^ (n - 1 - j) % 16) := by
    intro n
    induction n with
    | zero => intro j h; simp [FmtText.hexDigits] at h
    | succ n ih =>
      intro j h
      cases j with
      | zero =>
        simp only [FmtText.hexDigits, List.getElem_cons_zero]
        rw [hexChar_digit _ (Nat.mod_lt _ (by decide))]
        rfl
      | succ j =>
        simp only [FmtText.hexDigits, List.getElem_cons_succ]
        rw [ih j (by simpa [FmtText.hexDigits] using h)]
        congr 4
        omega
  have hsz := size_of_drop s k _ rest hk hd
  rw [List.length_append, hlen] at hsz
  refine hex_any s p n r w hs hn (by omega) hr ?_
  intro j hj hjn
  have hjl : pre.length + j < (pre ++ FmtText.hexDigits r n).length := by rw [List.length_append, hlen]; omega
  have hg := getElem_of_drop s k (pre.length + j) _ rest hd hjl (by omega)
  have e : p + j = k + (pre.length + j) := by omega
  have hg2 : s[p + j] = (pre ++ FmtText.hexDigits r n)[pre.length + j] := by
    simp only [e]
    exact hg
  rw [hg2, List.getElem_append_right (by omega)]
  have := hget n j (by rw [hlen]; omega)
  simpa using this

end Go.Proofs.Qxb6609533aFmt
