/-
  PLAIN LAWS, no Go in sight: what '%q' writes, cut into pieces, each with the bytes that it stands for.
-/
import Derived.Test.Qxb6609533aFmtPlain
import Derived.Lib.MapLaws
namespace Go.Proofs.Qxb6609533aFmt.Plain
open Go.Extern

/-- A rune's UTF-8. -/
def enc (r : Nat) : List UInt8 :=
  if r < 128 then [UInt8.ofNat r]
  else if r < 2048 then [UInt8.ofNat (192 + r / 64), UInt8.ofNat (128 + r % 64)]
  else if r < 65536 then [UInt8.ofNat (224 + r / 4096), UInt8.ofNat (128 + r / 64 % 64), UInt8.ofNat (128 + r % 64)]
  else [UInt8.ofNat (240 + r / 262144), UInt8.ofNat (128 + r / 4096 % 64), UInt8.ofNat (128 + r / 64 % 64), UInt8.ofNat (128 + r % 64)]

theorem enc_one (r : Nat) (c1 : r < 128) : enc r = [UInt8.ofNat r] := by rw [enc, if_pos c1]
theorem enc_two (r : Nat) (c1 : ¬ r < 128) (c2 : r < 2048) : enc r = [UInt8.ofNat (192 + r / 64), UInt8.ofNat (128 + r % 64)] := by rw [enc, if_neg c1, if_pos c2]
theorem enc_three (r : Nat) (c2 : ¬ r < 2048) (c3 : r < 65536) : enc r = [UInt8.ofNat (224 + r / 4096), UInt8.ofNat (128 + r / 64 % 64), UInt8.ofNat (128 + r % 64)] := by rw [enc, if_neg (by omega), if_neg c2, if_pos c3]
theorem enc_four (r : Nat) (c3 : ¬ r < 65536) : enc r = [UInt8.ofNat (240 + r / 262144), UInt8.ofNat (128 + r / 4096 % 64), UInt8.ofNat (128 + r / 64 % 64), UInt8.ofNat (128 + r % 64)] := by rw [enc, if_neg (by omega), if_neg (by omega), if_neg c3]

theorem enc_is (r : Nat) (hv : r < 55296 ∨ (57344 ≤ r ∧ r ≤ 1114111)) : (Utf8.encode (r : Int)).data.toList = enc r := by
  by_cases c1 : r < 128
  · rw [FmtText.enc1 r c1, enc_one r c1]
  by_cases c2 : r < 2048
  · rw [FmtText.enc2 r c1 c2, enc_two r c1 c2]
  by_cases c3 : r < 65536
  · rw [FmtText.enc3 r c2 c3 (by omega), enc_three r c2 c3]
  · rw [FmtText.enc4 r c3 (by omega), enc_four r c3]

/-- The nine escapes of one letter: the letter, the byte. -/
def simples : List (UInt8 × UInt8) := [(97, 7), (98, 8), (102, 12), (110, 10), (114, 13), (116, 9), (118, 11), (92, 92), (34, 34)]

/-- A piece of a quoted text and the bytes that it stands for. -/
def Chunk (p : List UInt8 × List UInt8) : Prop :=
  (∃ c : UInt8, c ≠ 34 ∧ c ≠ 92 ∧ p = ([c], [c])) ∨
  (∃ e b : UInt8, (e, b) ∈ simples ∧ p = ([92, e], [b])) ∨
  (∃ r : Nat, r < 256 ∧ p = (92 :: 120 :: FmtText.hexDigits r 2, [UInt8.ofNat r])) ∨
  (∃ r : Nat, r < 65536 ∧ (r < 55296 ∨ 57344 ≤ r) ∧ p = (92 :: 117 :: FmtText.hexDigits r 4, enc r)) ∨
  (∃ r : Nat, 65536 ≤ r ∧ r ≤ 1114111 ∧ p = (92 :: 85 :: FmtText.hexDigits r 8, enc r))

/-- The text is a row of pieces that stand for the bytes. -/
def Pieces (q s : List UInt8) : Prop := ∃ cs : List (List UInt8 × List UInt8), (∀ c ∈ cs, Chunk c) ∧ q = (cs.map (·.1)).flatten ∧ s = (cs.map (·.2)).flatten

theorem Pieces.nil : Pieces [] [] := ⟨[], by simp, rfl, rfl⟩
theorem Pieces.append {q q' s s' : List UInt8} (h : Pieces q s) (h' : Pieces q' s') : Pieces (q ++ q') (s ++ s') := by
  obtain ⟨cs, a, rfl, rfl⟩ := h
  obtain ⟨cs', a', rfl, rfl⟩ := h'
  refine ⟨cs ++ cs', ?_, by simp, by simp⟩
  intro c hc
  rcases List.mem_append.1 hc with hc | hc
  · exact a c hc
  · exact a' c hc
theorem Pieces.one {q s : List UInt8} (h : Chunk (q, s)) : Pieces q s := ⟨[(q, s)], by simpa using h, by simp, by simp⟩

theorem pieces_plain : ∀ l : List UInt8, (∀ c ∈ l, c ≠ 34 ∧ c ≠ 92) → Pieces l l
  | [], _ => Pieces.nil
  | c :: t, h => by
    have h1 := h c (by simp)
    exact Pieces.append (q := [c]) (s := [c]) (Pieces.one (Or.inl ⟨c, h1.1, h1.2, rfl⟩)) (pieces_plain t fun x hx => h x (by simp [hx]))

theorem big_ne (n : Nat) (h : 128 ≤ n) (h2 : n < 256) : UInt8.ofNat n ≠ 34 ∧ UInt8.ofNat n ≠ 92 := by
  constructor
  all_goals
    intro e
    have := congrArg UInt8.toNat e
    simp at this
    omega

theorem enc_plain (r : Nat) (hv : r < 55296 ∨ (57344 ≤ r ∧ r ≤ 1114111)) (h34 : r ≠ 34) (h92 : r ≠ 92) : ∀ c ∈ enc r, c ≠ 34 ∧ c ≠ 92 := by
  by_cases c1 : r < 128
  · rw [enc_one r c1]
    intro c hc
    simp at hc
    subst hc
    constructor
    all_goals
      intro e
      have := congrArg UInt8.toNat e
      simp at this
      omega
  by_cases c2 : r < 2048
  · rw [enc_two r c1 c2]
    intro c hc
    simp only [List.mem_cons, List.not_mem_nil, or_false] at hc
    rcases hc with rfl | rfl
    · exact big_ne _ (by omega) (by omega)
    · exact big_ne _ (by omega) (by omega)
  by_cases c3 : r < 65536
  · rw [enc_three r c2 c3]
    intro c hc
    simp only [List.mem_cons, List.not_mem_nil, or_false] at hc
    rcases hc with rfl | rfl | rfl
    · exact big_ne _ (by omega) (by omega)
    · exact big_ne _ (by omega) (by omega)
    · exact big_ne _ (by omega) (by omega)
  · rw [enc_four r c3]
    intro c hc
    simp only [List.mem_cons, List.not_mem_nil, or_false] at hc
    rcases hc with rfl | rfl | rfl | rfl
    · exact big_ne _ (by omega) (by omega)
    · exact big_ne _ (by omega) (by omega)
    · exact big_ne _ (by omega) (by omega)
    · exact big_ne _ (by omega) (by omega)

theorem simple_piece (e b : UInt8) (h : (e, b) ∈ simples) : Pieces [92, e] [b] := Pieces.one (Or.inr (Or.inl ⟨e, b, h, rfl⟩))

theorem esc_pieces (r : Nat) (hv : r < 55296 ∨ (57344 ≤ r ∧ r ≤ 1114111)) : Pieces (FmtText.escRune 34 false r) (enc r) := by
  unfold FmtText.escRune
  by_cases c0 : r = 34 ∨ r = 92
  · have c0b : (r == 34 || r == 92) = true := by simpa using c0
    rw [if_pos c0b]
    have e1 : enc r = [UInt8.ofNat r] := enc_one r (by omega)
    rw [e1]
    rcases c0 with rfl | rfl
    · exact simple_piece 34 34 (by decide)
    · exact simple_piece 92 92 (by decide)
  have c0b : ¬ (r == 34 || r == 92) = true := by simpa using c0
  rw [if_neg c0b]
  simp only [Bool.false_eq_true, if_false]
  by_cases c1 : FmtText.isPrint r = true
  · rw [if_pos c1, enc_is r hv]
    exact pieces_plain _ (enc_plain r hv (by omega) (by omega))
  rw [if_neg c1]
  by_cases k7 : r = 7
  · subst k7; exact simple_piece 97 7 (by decide)
  by_cases k8 : r = 8
  · subst k8; exact simple_piece 98 8 (by decide)
  by_cases k12 : r = 12
  · subst k12; exact simple_piece 102 12 (by decide)
  by_cases k10 : r = 10
  · subst k10; exact simple_piece 110 10 (by decide)
  by_cases k13 : r = 13
  · subst k13; exact simple_piece 114 13 (by decide)
  by_cases k9 : r = 9
  · subst k9; exact simple_piece 116 9 (by decide)
  by_cases k11 : r = 11
  · subst k11; exact simple_piece 118 11 (by decide)
  simp only [beq_iff_eq, k7, k8, k12, k10, k13, k9, k11, if_false]
  by_cases c9 : r < 32 ∨ r = 127
  · have c9b : (decide (r < 32) || decide (r = 127)) = true := by simpa using c9
    have e1 : enc r = [UInt8.ofNat r] := enc_one r (by omega)
    rw [e1]
    have hp : Pieces (92 :: 120 :: FmtText.hexDigits r 2) [UInt8.ofNat r] := Pieces.one (Or.inr (Or.inr (Or.inl ⟨r, by omega, rfl⟩)))
    rw [if_pos (by simpa using c9)]
    exact hp
  rw [if_neg (by simpa using c9)]
  have hval : Utf8.valid (r : Int) = true := by simp [Utf8.valid]; omega
  rw [hval]
  simp only [Bool.not_true, Bool.false_eq_true, if_false]
  by_cases c11 : r < 65536
  · rw [if_pos c11]
    exact Pieces.one (Or.inr (Or.inr (Or.inr (Or.inl ⟨r, c11, by omega, rfl⟩))))
  · rw [if_neg c11]
    exact Pieces.one (Or.inr (Or.inr (Or.inr (Or.inr ⟨r, by omega, by omega, rfl⟩))))

theorem enc_eq (r : Nat) (hv : r < 55296 ∨ (57344 ≤ r ∧ r ≤ 1114111)) : enc r = Lib.encodeRune (r : Int) := by
  have h := FmtText.encode_eq r
  rw [enc_is r hv] at h
  unfold Lib.encodeRune
  rw [← h, FmtText.nums, List.map_map]
  have hid : ∀ x ∈ enc r, ((fun x : Int => x.toNat.toUInt8) ∘ fun x : UInt8 => (x.toNat : Int)) x = x := by
    intro x _
    simp
  rw [List.map_congr_left hid]
  simp

theorem quote_pieces (l : List UInt8) : ∀ (fuel pos : Nat), l.length - pos ≤ fuel → Pieces (FmtText.quoteFrom 34 false (FmtText.arr l) fuel pos) (l.drop pos)
  | 0, pos, h => by
    rw [List.drop_eq_nil_of_le (by omega)]
    exact Pieces.nil
  | fuel + 1, pos, h => by
    have hs : (FmtText.arr l).size = l.length := by simp [FmtText.arr, ByteArray.size]
    have hdl : (FmtText.arr l).data.toList = l := by simp [FmtText.arr]
    unfold FmtText.quoteFrom
    by_cases hp : pos < l.length
    · have hp' : pos < (FmtText.arr l).size := by omega
      rw [if_pos hp']
      have hdec := Lib.decodeL_drop (FmtText.arr l) pos
      rw [hdl] at hdec
      have hne : l.drop pos ≠ [] := by
        intro e
        have := congrArg List.length e
        simp at this
        omega
      have hk1 := Lib.decodeL_width (l.drop pos)
      have hk2 := Lib.decodeL_le (l.drop pos) hne
      have hkl : (l.drop pos).length = l.length - pos := List.length_drop
      by_cases hb : (Utf8.decode (FmtText.arr l) pos).2 = 1 ∧ (Utf8.decode (FmtText.arr l) pos).1 = 65533
      · have hb' : ((Utf8.decode (FmtText.arr l) pos).2 == 1 && (Utf8.decode (FmtText.arr l) pos).1 == 65533) = true := by simpa using hb
        rw [if_pos hb', hb.1, List.drop_eq_getElem_cons hp]
        have hg : (FmtText.arr l).get! pos = l[pos] := by
          have h1 : (FmtText.arr l).get! pos = l.toArray[pos]! := rfl
          rw [h1, getElem!_pos l.toArray pos (by simpa using hp)]
          rfl
        rw [hg]
        have h8 := (l[pos]).toNat_lt
        refine Pieces.append (s := [l[pos]]) ?_ (quote_pieces l fuel (pos + 1) (by omega))
        refine Pieces.one (Or.inr (Or.inr (Or.inl ⟨l[pos].toNat, by omega, ?_⟩)))
        simp
      · have hb' : ¬ ((Utf8.decode (FmtText.arr l) pos).2 == 1 && (Utf8.decode (FmtText.arr l) pos).1 == 65533) = true := by simpa using hb
        rw [if_neg hb']
        rw [← hdec] at hb ⊢
        have he := Lib.encode_decode (l.drop pos) hne (fun h => hb ⟨h.2, h.1⟩)
        have hval : (Lib.decodeL (l.drop pos)).1 < 55296 ∨ (57344 ≤ (Lib.decodeL (l.drop pos)).1 ∧ (Lib.decodeL (l.drop pos)).1 ≤ 1114111) := by
          rw [hdec, Lib.decode_at]
          have := Lib.decodeN_valid ((FmtText.arr l).size - pos) ((FmtText.arr l).get! pos).toNat ((FmtText.arr l).get! (pos + 1)).toNat ((FmtText.arr l).get! (pos + 2)).toNat ((FmtText.arr l).get! (pos + 3)).toNat (UInt8.toNat_lt _)
          omega
        have hsp : l.drop pos = enc (Lib.decodeL (l.drop pos)).1 ++ l.drop (pos + (Lib.decodeL (l.drop pos)).2) := by
          rw [enc_eq _ hval, he, ← List.drop_drop]
          exact (List.take_append_drop _ _).symm
        have hrec := quote_pieces l fuel (pos + (Lib.decodeL (l.drop pos)).2) (by omega)
        have hall := Pieces.append (esc_pieces _ hval) hrec
        rw [← hsp] at hall
        exact hall
    · rw [if_neg (by omega), List.drop_eq_nil_of_le (by omega)]
      exact Pieces.nil

/-- ████ A QUOTED TEXT: a quote, pieces that stand for the bytes, a quote. -/
theorem quote_is (l : List UInt8) : ∃ body, FmtText.quote false l = 34 :: (body ++ [34]) ∧ Pieces body l :=
  ⟨_, rfl, by simpa using quote_pieces l l.length 0 (by omega)⟩

end Go.Proofs.Qxb6609533aFmt.Plain
