/-
  WALKS: slices.Sort and slices.Compact of a slice of the call's own; what they leave.
-/
import Derived.Test.Qxb6612201aShelf
import Derived.Test.Qxb6612201aReachW
set_option maxRecDepth 100000
namespace Go.Proofs.Qxb6612201a
open Go.RowKit Go.Shelf Go.Sort Go.Lib
set_option linter.unusedVariables false
set_option linter.unusedSimpArgs false

theorem compactUpTo_spec (d : Array Int) (hs : ∀ i j, i < j → j < d.size → d[i]! ≤ d[j]!) : ∀ m, m ≤ d.size → (∀ x, x ∈ compactUpTo d m ↔ ∃ j, j < m ∧ d[j]! = x) ∧ (compactUpTo d m).Pairwise (· < ·)
  | 0, _ => by simp [compactUpTo]
  | m + 1, hm => by
    obtain ⟨h1, h2⟩ := compactUpTo_spec d hs m (by omega)
    rw [compactUpTo_succ]
    have hk : keeps d m = decide (m = 0 ∨ d[m]! ≠ d[m - 1]!) := rfl
    by_cases hkk : keeps d m = true
    · rw [if_pos hkk]
      constructor
      · intro x
        rw [List.mem_append, h1 x, List.mem_singleton]
        constructor
        · rintro (⟨j, hj, e⟩ | e)
          · exact ⟨j, by omega, e⟩
          · exact ⟨m, by omega, e.symm⟩
        · rintro ⟨j, hj, e⟩
          by_cases hjm : j = m
          · subst hjm; exact .inr e.symm
          · exact .inl ⟨j, by omega, e⟩
      · rw [List.pairwise_append]
        refine ⟨h2, by simp, fun a ha b hb => ?_⟩
        rw [List.mem_singleton] at hb
        subst hb
        obtain ⟨j, hj, rfl⟩ := (h1 a).1 ha
        rw [hk] at hkk
        have h3 : m ≠ 0 := by omega
        have h4 : d[m]! ≠ d[m - 1]! := by simpa [h3] using hkk
        have h5 := hs (m - 1) m (by omega) (by omega)
        by_cases e : j = m - 1
        · subst e; omega
        · have := hs j (m - 1) (by omega) (by omega)
          omega
    · rw [if_neg hkk, List.append_nil]
      refine ⟨fun x => ?_, h2⟩
      rw [h1 x]
      rw [hk] at hkk
      have h3 : m ≠ 0 ∧ d[m]! = d[m - 1]! := by simpa using hkk
      constructor
      · rintro ⟨j, hj, e⟩; exact ⟨j, by omega, e⟩
      · rintro ⟨j, hj, e⟩
        by_cases hjm : j = m
        · subst hjm; exact ⟨j - 1, by omega, by rw [← h3.2]; exact e⟩
        · exact ⟨j, by omega, e⟩

/-- The bounds: sorted, without repeats, the same elements. -/
def bnds (xs : List Int) : List Int := Lib.compact (xs.mergeSort fun x y => decide (x ≤ y))

theorem bnds_spec (xs : List Int) : (∀ x, x ∈ bnds xs ↔ x ∈ xs) ∧ (bnds xs).Pairwise (· < ·) := by
  obtain ⟨ys, hys⟩ : ∃ ys, xs.mergeSort (fun x y => decide (x ≤ y)) = ys := ⟨_, rfl⟩
  have hp : ys.Perm xs := by rw [← hys]; exact List.mergeSort_perm _ _
  have hs : ys.Pairwise (fun a b => decide (a ≤ b) = true) := by
    rw [← hys]
    exact List.pairwise_mergeSort (fun a b c h1 h2 => by simp at *; omega) (fun a b => by simp; omega) _
  unfold bnds Lib.compact
  rw [hys]
  have h := compactUpTo_spec ys.toArray (fun i j hij hj => by
    have h1 := (List.pairwise_iff_getElem.1 hs) i j (by simp at hj; omega) (by simpa using hj) hij
    rw [getElem!_pos _ i (by simp at hj ⊢; omega), getElem!_pos _ j hj]
    simpa using h1) ys.length (by simp)
  refine ⟨fun x => ?_, h.2⟩
  rw [h.1 x, ← hp.mem_iff, List.mem_iff_getElem]
  constructor
  · rintro ⟨j, hj, e⟩
    refine ⟨j, hj, ?_⟩
    rw [getElem!_pos _ j (by simpa using hj)] at e
    simpa using e
  · rintro ⟨j, hj, e⟩
    refine ⟨j, hj, ?_⟩
    rw [getElem!_pos _ j (by simpa using hj)]
    simpa using e

theorem bnds_len (xs : List Int) : (bnds xs).length ≤ xs.length := by
  have h := compact_length_le (xs.mergeSort fun x y => decide (x ≤ y))
  rw [List.length_mergeSort] at h
  exact h

theorem turned_put (w : World) (b n : Nat) (d : Array Int) (os : Array Obj) : Turned [b] w (grow (putRow (Value.int .i64) (Sort.ahead w n) b 0 d) os) := by
  refine ⟨rfl, rfl, rfl, ?_, fun k hk hne => ?_⟩
  · simp [grow]
  · simp only [grow]
    rw [Array.getElem?_append_left (by simp [Sort.ahead]; exact hk)]
    simp only [putRow, mapBlock, Sort.ahead]
    rw [Array.getElem?_modify, if_neg (fun e => hne (by simp [e]))]

/-- The slice's elements, in a block g of its own; or there are none. -/
structure SRow (w : World) (a : Option Addr) (cap g : Nat) (xs : List Int) : Prop where
  addr : 0 < xs.length → a = some ⟨g, 0, none⟩
  lt : 0 < xs.length → g < w.heap.size
  cap_ : xs.length ≤ cap
  holds : 0 < xs.length → Holds (Value.int .i64) w g 0 xs.toArray

theorem sort36_any (a : Option Addr) (cap g L : Nat) (xs : List Int) (w : World) (hL : L = xs.length) (hl : xs.length ≤ 1000000) (h : SRow w a cap g xs) :
    Calls Try.prog 36 #[.slice a L cap] w fun e w' => e = .returned (.tuple #[]) ∧ SRow w' a cap g (xs.mergeSort fun x y => decide (x ≤ y)) ∧ Turned (if 0 < xs.length then [g] else []) w w' := by
  subst hL
  by_cases h0 : 0 < xs.length
  · obtain rfl := h.addr h0
    refine (Try.slices_Sort_int g 0 cap xs w (h.holds h0) (h.lt h0) (by omega)).mono ?_
    rintro e w' ⟨rfl, n, os, rfl⟩
    rw [if_pos h0]
    refine ⟨rfl, ⟨fun _ => rfl, fun _ => Nat.lt_of_lt_of_le (h.lt h0) (turned_put w g n _ os).size, by rw [List.length_mergeSort]; exact h.cap_, fun _ => ?_⟩, turned_put w g n _ os⟩
    refine holds_grow _ _ _ _ _ _ (by simp [Sort.ahead]; exact h.lt h0) ?_
    exact holds_putRow _ (Sort.ahead w n) g 0 xs.toArray _ (h.holds h0) (by simp)
  · have hx : xs = [] := List.length_eq_zero_iff.1 (by omega)
    subst hx
    refine (Try.slices_Sort_int_none a cap w).mono ?_
    rintro e w' ⟨rfl, rfl⟩
    exact ⟨rfl, by simpa using h, Turned.refl _ _⟩

theorem compact37_any (a : Option Addr) (cap g L : Nat) (xs : List Int) (w : World) (hL : L = xs.length) (hl : xs.length ≤ 1000000) (h : SRow w a cap g xs) :
    Calls Try.prog 37 #[.slice a L cap] w fun e w' => e = .returned (.slice a (Lib.compact xs).length cap) ∧ SRow w' a cap g (Lib.compact xs) ∧ Turned (if 0 < xs.length then [g] else []) w w' := by
  subst hL
  by_cases h0 : 0 < xs.length
  · obtain rfl := h.addr h0
    refine (Try.slices_Compact_int g 0 cap xs w (h.holds h0) (by omega) h.cap_).mono ?_
    rintro e w' ⟨rfl, q, rfl⟩
    rw [if_pos h0]
    have hle := compact_length_le xs
    have ht := turned_put w g q (compact xs ++ List.replicate (xs.length - (compact xs).length) 0).toArray #[]
    simp only [grow_empty] at ht
    refine ⟨rfl, ⟨fun _ => rfl, fun _ => Nat.lt_of_lt_of_le (h.lt h0) ht.size, Nat.le_trans hle h.cap_, fun _ => ?_⟩, ht⟩
    have hH := holds_putRow (Value.int .i64) (Sort.ahead w q) g 0 xs.toArray (compact xs ++ List.replicate (xs.length - (compact xs).length) 0).toArray (h.holds h0) (by simp; omega)
    intro j hj
    have h1 := hH j (by simp at hj ⊢; omega)
    refine ⟨?_, h1.2⟩
    rw [h1.1]
    rw [getElem!_pos _ j (by simp at hj ⊢; omega), getElem!_pos _ j hj]
    simp at hj ⊢
    rw [List.getElem_append_left hj]
  · have hx : xs = [] := List.length_eq_zero_iff.1 (by omega)
    subst hx
    refine (Try.slices_Compact_int_empty a cap w).mono ?_
    rintro e w' ⟨rfl, rfl⟩
    refine ⟨rfl, ?_, Turned.refl _ _⟩
    have hc : Lib.compact ([] : List Int) = [] := rfl
    rw [hc]
    exact h

end Go.Proofs.Qxb6612201a
