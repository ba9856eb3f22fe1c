/-
  PLAIN: THE TREES OVER THE ITEMS. Node 1 is the root, node p has the children 2p and 2p+1, place i is the leaf 2^H + i.
-/
namespace Go.Proofs.Qxb6612201a
set_option linter.unusedVariables false

/-- Place i lies under node p. -/
def Under (H p i : Nat) : Prop := ∃ j, (2 ^ H + i) / 2 ^ j = p

/-- The nodes that 'cover' calls its function with, in order. -/
def coverL : Nat → Nat → Nat → List Nat
  | 0, _, _ => []
  | f + 1, l, r => if l < r then (if l % 2 = 1 then [l] else []) ++ ((if r % 2 = 1 then [r - 1] else []) ++ coverL f ((l + l % 2) / 2) (r / 2)) else []

theorem coverL_none {l r : Nat} (h : r ≤ l) : ∀ f, coverL f l r = []
  | 0 => rfl
  | f + 1 => by rw [coverL, if_neg (by omega)]

theorem pow_succ_two (m : Nat) : 2 ^ (m + 1) = 2 * 2 ^ m := by rw [Nat.pow_succ, Nat.mul_comm]

theorem div_pow_succ (x j : Nat) : x / 2 ^ (j + 1) = x / 2 / 2 ^ j := by rw [pow_succ_two, Nat.div_div_eq_div_mul]

theorem one_le_pow (m : Nat) : 1 ≤ 2 ^ m := Nat.one_le_two_pow

/-- The nodes are nodes. -/
theorem coverL_range : ∀ (f m l r : Nat), 2 ^ m ≤ l → r ≤ 2 ^ (m + 1) → ∀ p ∈ coverL f l r, 1 ≤ p ∧ p < 2 ^ (m + 1)
  | 0, _, _, _, _, _, p, hp => by simp [coverL] at hp
  | f + 1, m, l, r, hl, hr, p, hp => by
    have h1 := one_le_pow m
    rw [coverL] at hp
    split at hp
    · rename_i hlr
      rw [List.mem_append, List.mem_append] at hp
      rcases hp with hp | hp | hp
      · split at hp
        · rw [List.mem_singleton] at hp; omega
        · cases hp
      · split at hp
        · rw [List.mem_singleton] at hp; omega
        · cases hp
      · cases m with
        | zero =>
          have : coverL f ((l + l % 2) / 2) (r / 2) = [] := coverL_none (by simp at hl hr; omega) f
          rw [this] at hp
          cases hp
        | succ m =>
          have e1 := pow_succ_two m
          have e2 := pow_succ_two (m + 1)
          have := coverL_range f m ((l + l % 2) / 2) (r / 2) (by omega) (by omega) p hp
          omega
    · cases hp

/-- THE PLACES UNDER THE NODES OF THE COVER are those from l to r - 1. -/
theorem coverL_spec : ∀ (m f l r x : Nat), m < f → 2 ^ m ≤ l → r ≤ 2 ^ (m + 1) → 2 ^ m ≤ x → x < 2 ^ (m + 1) → ((∃ p ∈ coverL f l r, ∃ j, x / 2 ^ j = p) ↔ l ≤ x ∧ x < r)
  | m, 0, _, _, _, hf, _, _, _, _ => by omega
  | 0, f + 1, l, r, x, _, hl, hr, hx, hx' => by
    simp only [Nat.pow_zero, Nat.zero_add, Nat.pow_one] at hl hr hx hx'
    obtain rfl : x = 1 := by omega
    rw [coverL]
    split
    · obtain ⟨rfl, rfl⟩ : l = 1 ∧ r = 2 := by omega
      exact ⟨fun _ => ⟨Nat.le_refl _, by omega⟩, fun _ => ⟨1, by simp, 0, rfl⟩⟩
    · constructor
      · rintro ⟨p, hp, _⟩; cases hp
      · omega
  | m + 1, f + 1, l, r, x, hf, hl, hr, hx, hx' => by
    have e1 := pow_succ_two m
    have e2 := pow_succ_two (m + 1)
    have h1 := one_le_pow m
    rw [coverL]
    split
    · rename_i hlr
      have ih := coverL_spec m f ((l + l % 2) / 2) (r / 2) (x / 2) (by omega) (by omega) (by omega) (by omega) (by omega)
      have hself : ∀ q, 2 ^ (m + 1) ≤ q → (∃ j, x / 2 ^ j = q) → x = q := by
        rintro q hq ⟨j, hj⟩
        cases j with
        | zero => simpa using hj
        | succ j =>
          rw [div_pow_succ] at hj
          have : x / 2 / 2 ^ j ≤ x / 2 := Nat.div_le_self _ _
          omega
      have hsub : ∀ p ∈ coverL f ((l + l % 2) / 2) (r / 2), (∃ j, x / 2 ^ j = p) → ∃ j, x / 2 / 2 ^ j = p := by
        rintro p hp ⟨j, hj⟩
        have := coverL_range f m _ _ (by omega) (by omega) p hp
        cases j with
        | zero => simp at hj; omega
        | succ j => exact ⟨j, by rw [← div_pow_succ]; exact hj⟩
      constructor
      · rintro ⟨p, hp, hj⟩
        rw [List.mem_append, List.mem_append] at hp
        rcases hp with hp | hp | hp
        · split at hp
          · rw [List.mem_singleton] at hp
            have := hself p (by omega) hj
            omega
          · cases hp
        · split at hp
          · rw [List.mem_singleton] at hp
            have := hself p (by omega) hj
            omega
          · cases hp
        · have := ih.1 ⟨p, hp, hsub p hp hj⟩
          omega
      · intro h
        by_cases hl1 : l % 2 = 1 ∧ x = l
        · exact ⟨l, by rw [List.mem_append, if_pos hl1.1]; exact .inl (List.mem_singleton_self _), 0, by simpa using hl1.2⟩
        · by_cases hr1 : r % 2 = 1 ∧ x = r - 1
          · exact ⟨r - 1, by rw [List.mem_append, List.mem_append, if_pos hr1.1]; exact .inr (.inl (List.mem_singleton_self _)), 0, by simpa using hr1.2⟩
          · obtain ⟨p, hp, j, hj⟩ := ih.2 (by omega)
            exact ⟨p, by rw [List.mem_append, List.mem_append]; exact .inr (.inr hp), j + 1, by rw [div_pow_succ]; exact hj⟩
    · constructor
      · rintro ⟨p, hp, _⟩; cases hp
      · omega

/-- The cover of the places lo to hi - 1. -/
def cover (H lo hi : Nat) : List Nat := coverL (H + 1) (lo + 2 ^ H) (hi + 2 ^ H)

theorem cover_under {H lo hi i : Nat} (hh : hi ≤ 2 ^ H) (hi' : i < 2 ^ H) : (∃ p ∈ cover H lo hi, Under H p i) ↔ lo ≤ i ∧ i < hi := by
  have e := pow_succ_two H
  have := coverL_spec H (H + 1) (lo + 2 ^ H) (hi + 2 ^ H) (2 ^ H + i) (Nat.lt_succ_self _) (by omega) (by omega) (by omega) (by omega)
  unfold cover Under
  rw [this]
  omega

theorem cover_range {H lo hi : Nat} (hh : hi ≤ 2 ^ H) : ∀ p ∈ cover H lo hi, 1 ≤ p ∧ p < 2 * 2 ^ H := by
  intro p hp
  have e := pow_succ_two H
  have := coverL_range (H + 1) H _ _ (by omega) (by omega) p hp
  omega

/-! ### the tree of the least values -/
def iAt (arr : List Int) (p : Nat) : Int := arr.getD p 0

theorem iAt_set (arr : List Int) (p q : Nat) (x : Int) (hp : p < arr.length) : iAt (arr.set p x) q = if q = p then x else iAt arr q := by
  unfold iAt
  rw [List.getD_eq_getElem?_getD, List.getElem?_set]
  by_cases h : p = q
  · subst h; simp [hp]
  · rw [if_neg h, if_neg (fun e => h e.symm), List.getD_eq_getElem?_getD]

theorem iAt_replicate (n p : Nat) (x : Int) (hp : p < n) : iAt (List.replicate n x) p = x := by
  unfold iAt
  rw [List.getD_eq_getElem?_getD, List.getElem?_replicate, if_pos hp]
  rfl

/-- Each inner node holds the lesser of its two children. -/
def MinOk (arr : List Int) (q : Nat) : Prop := iAt arr q = min (iAt arr (2 * q)) (iAt arr (2 * q + 1))
structure IsMin (H : Nat) (arr : List Int) : Prop where
  len : arr.length = 2 * 2 ^ H
  ok : ∀ q, 1 ≤ q → q < 2 ^ H → MinOk arr q

theorem under_split {H p i : Nat} (hp : 1 ≤ p) (hp' : p < 2 ^ H) : Under H p i ↔ Under H (2 * p) i ∨ Under H (2 * p + 1) i := by
  constructor
  · rintro ⟨j, hj⟩
    cases j with
    | zero => simp at hj; omega
    | succ j =>
      have : (2 ^ H + i) / 2 ^ (j + 1) = (2 ^ H + i) / 2 ^ j / 2 := by rw [Nat.pow_succ, Nat.div_div_eq_div_mul]
      rw [this] at hj
      rcases Nat.mod_two_eq_zero_or_one ((2 ^ H + i) / 2 ^ j) with h | h
      · exact .inl ⟨j, by omega⟩
      · exact .inr ⟨j, by omega⟩
  · rintro (⟨j, hj⟩ | ⟨j, hj⟩) <;> exact ⟨j + 1, by rw [Nat.pow_succ, ← Nat.div_div_eq_div_mul, hj]; omega⟩

theorem under_leaf {H p i : Nat} (hp : 2 ^ H ≤ p) (hi : i < 2 ^ H) : Under H p i ↔ p = 2 ^ H + i := by
  constructor
  · rintro ⟨j, hj⟩
    cases j with
    | zero => simp at hj; exact hj.symm
    | succ j =>
      rw [div_pow_succ] at hj
      have : (2 ^ H + i) / 2 / 2 ^ j ≤ (2 ^ H + i) / 2 := Nat.div_le_self _ _
      omega
  · intro h
    exact ⟨0, by simp [h]⟩

/-- A NODE's VALUE IS BELOW b JUST IF ONE UNDER IT IS. -/
theorem IsMin.below {H : Nat} {arr : List Int} (h : IsMin H arr) (b : Int) : ∀ (k p : Nat), 2 * 2 ^ H - p ≤ k → 1 ≤ p → p < 2 * 2 ^ H → (iAt arr p < b ↔ ∃ i, i < 2 ^ H ∧ Under H p i ∧ iAt arr (2 ^ H + i) < b)
  | 0, p, hk, _, hp => by omega
  | k + 1, p, hk, h1, hp => by
    by_cases hl : 2 ^ H ≤ p
    · constructor
      · intro hb
        exact ⟨p - 2 ^ H, by omega, (under_leaf hl (by omega)).2 (by omega), by rwa [show 2 ^ H + (p - 2 ^ H) = p by omega]⟩
      · rintro ⟨i, hi, hu, hb⟩
        rw [(under_leaf hl hi).1 hu]
        exact hb
    · have ha := IsMin.below h b k (2 * p) (by omega) (by omega) (by omega)
      have hc := IsMin.below h b k (2 * p + 1) (by omega) (by omega) (by omega)
      have hm := h.ok p h1 (by omega)
      unfold MinOk at hm
      rw [hm]
      have hmin : min (iAt arr (2 * p)) (iAt arr (2 * p + 1)) < b ↔ iAt arr (2 * p) < b ∨ iAt arr (2 * p + 1) < b := by omega
      rw [hmin, ha, hc]
      constructor
      · rintro (⟨i, hi, hu, hb⟩ | ⟨i, hi, hu, hb⟩)
        · exact ⟨i, hi, (under_split h1 (by omega)).2 (.inl hu), hb⟩
        · exact ⟨i, hi, (under_split h1 (by omega)).2 (.inr hu), hb⟩
      · rintro ⟨i, hi, hu, hb⟩
        rcases (under_split h1 (by omega)).1 hu with hu | hu
        · exact .inl ⟨i, hi, hu, hb⟩
        · exact .inr ⟨i, hi, hu, hb⟩

theorem IsMin.node {H : Nat} {arr : List Int} (h : IsMin H arr) (b : Int) (p : Nat) (h1 : 1 ≤ p) (hp : p < 2 * 2 ^ H) : iAt arr p < b ↔ ∃ i, i < 2 ^ H ∧ Under H p i ∧ iAt arr (2 ^ H + i) < b := h.below b _ p (Nat.le_refl _) h1 hp

theorem IsMin.fresh (H : Nat) (x : Int) : IsMin H (List.replicate (2 * 2 ^ H) x) := by
  refine ⟨by simp, fun q h1 h2 => ?_⟩
  unfold MinOk
  rw [iAt_replicate _ _ _ (by omega), iAt_replicate _ _ _ (by omega), iAt_replicate _ _ _ (by omega)]
  omega

/-- All but the nodes from p upward are in order. -/
def OkBut (H : Nat) (arr : List Int) (p : Nat) : Prop := ∀ q, 1 ≤ q → q < 2 ^ H → (∀ j, p / 2 ^ j ≠ q) → MinOk arr q

theorem OkBut.start {H : Nat} {arr : List Int} (h : IsMin H arr) (i : Nat) (hi : i < 2 ^ H) (v : Int) : OkBut H (arr.set (2 ^ H + i) v) ((2 ^ H + i) / 2) := by
  intro q h1 h2 hq
  have hl := h.len
  have h0 := hq 0
  simp only [Nat.pow_zero, Nat.div_one] at h0
  unfold MinOk
  rw [iAt_set _ _ _ _ (by omega), iAt_set _ _ _ _ (by omega), iAt_set _ _ _ _ (by omega), if_neg (by omega), if_neg (by omega), if_neg (by omega)]
  exact h.ok q h1 h2

theorem OkBut.step {H : Nat} {arr : List Int} {p : Nat} (h : OkBut H arr p) (hl : arr.length = 2 * 2 ^ H) (h1 : 1 ≤ p) (hp : p < 2 ^ H) :
    OkBut H (arr.set p (min (iAt arr (2 * p)) (iAt arr (2 * p + 1)))) (p / 2) := by
  intro q hq1 hq2 hq
  have h0 := hq 0
  simp only [Nat.pow_zero, Nat.div_one] at h0
  unfold MinOk
  rw [iAt_set _ _ _ _ (by omega), iAt_set _ _ _ _ (by omega), iAt_set _ _ _ _ (by omega), if_neg (by omega : ¬ 2 * q = p), if_neg (by omega : ¬ 2 * q + 1 = p)]
  by_cases hqp : q = p
  · rw [if_pos hqp, hqp]
  · rw [if_neg hqp]
    refine h q hq1 hq2 fun j => ?_
    cases j with
    | zero => simp; omega
    | succ j => rw [div_pow_succ]; exact hq j

theorem OkBut.final {H : Nat} {arr : List Int} (h : OkBut H arr 0) (hl : arr.length = 2 * 2 ^ H) : IsMin H arr := ⟨hl, fun q h1 h2 => h q h1 h2 (fun j => by simp; omega)⟩

/-! ### the tree of what is laid on ranges -/
def Laid := List (Nat × Nat × Int)
/-- For each place: a value below b lies on a node above it just if one was laid on a range that holds it. -/
structure IsStab (H : Nat) (arr : List Int) (laid : List (Nat × Nat × Int)) : Prop where
  len : arr.length = 2 * 2 ^ H
  ok : ∀ i, i < 2 ^ H → ∀ b : Int, b ≤ 9223372036854775807 → ((∃ p, 1 ≤ p ∧ Under H p i ∧ iAt arr p < b) ↔ ∃ t ∈ laid, t.1 ≤ i ∧ i < t.2.1 ∧ t.2.2 < b)

theorem under_lt {H p i : Nat} (hi : i < 2 ^ H) (h : Under H p i) : p < 2 * 2 ^ H := by
  obtain ⟨j, rfl⟩ := h
  have : (2 ^ H + i) / 2 ^ j ≤ 2 ^ H + i := Nat.div_le_self _ _
  omega

theorem IsStab.fresh (H : Nat) : IsStab H (List.replicate (2 * 2 ^ H) 9223372036854775807) [] := by
  refine ⟨by simp, fun i hi b hb => ⟨?_, ?_⟩⟩
  · rintro ⟨p, h1, hu, hlt⟩
    rw [iAt_replicate _ _ _ (under_lt hi hu)] at hlt
    omega
  · rintro ⟨t, ht, _⟩
    cases ht

/-- The values after the nodes ps were lowered to v. -/
def lower (arr : List Int) (v : Int) (ps : List Nat) : List Int := ps.foldl (fun a p => a.set p (min (iAt a p) v)) arr

theorem lower_len (v : Int) : ∀ (ps : List Nat) (arr : List Int), (lower arr v ps).length = arr.length
  | [], _ => rfl
  | p :: ps, arr => by
    show (lower (arr.set p (min (iAt arr p) v)) v ps).length = _
    rw [lower_len v ps, List.length_set]

theorem lower_snoc (arr : List Int) (v : Int) (ps : List Nat) (p : Nat) : lower arr v (ps ++ [p]) = (lower arr v ps).set p (min (iAt (lower arr v ps) p) v) := by
  unfold lower
  rw [List.foldl_append]
  rfl

theorem lower_lt (v b : Int) : ∀ (ps : List Nat) (arr : List Int) (q : Nat), (∀ p ∈ ps, p < arr.length) → (iAt (lower arr v ps) q < b ↔ iAt arr q < b ∨ (q ∈ ps ∧ v < b))
  | [], arr, q, _ => by simp [lower]
  | p :: ps, arr, q, h => by
    show iAt (lower (arr.set p (min (iAt arr p) v)) v ps) q < b ↔ _
    rw [lower_lt v b ps _ q (fun x hx => by rw [List.length_set]; exact h x (List.mem_cons_of_mem _ hx)), iAt_set _ _ _ _ (h p (List.mem_cons_self ..)), List.mem_cons]
    by_cases hq : q = p
    · rw [if_pos hq, hq]
      have : min (iAt arr p) v < b ↔ iAt arr p < b ∨ v < b := by omega
      rw [this]
      constructor
      · rintro ((h1 | h1) | h1)
        · exact .inl h1
        · exact .inr ⟨.inl rfl, h1⟩
        · exact .inr ⟨.inl rfl, h1.2⟩
      · rintro (h1 | h1)
        · exact .inl (.inl h1)
        · exact .inl (.inr h1.2)
    · rw [if_neg hq]
      constructor
      · rintro (h1 | h1)
        · exact .inl h1
        · exact .inr ⟨.inr h1.1, h1.2⟩
      · rintro (h1 | ⟨h1 | h1, h2⟩)
        · exact .inl h1
        · exact absurd h1 hq
        · exact .inr ⟨h1, h2⟩

theorem IsStab.lay {H : Nat} {arr : List Int} {laid : List (Nat × Nat × Int)} (h : IsStab H arr laid) (lo hi : Nat) (v : Int) (hh : hi ≤ 2 ^ H) :
    IsStab H (lower arr v (cover H lo hi)) ((lo, hi, v) :: laid) := by
  have hr := cover_range (lo := lo) hh
  refine ⟨by rw [lower_len]; exact h.len, fun i hi' b hb => ?_⟩
  have hlt := fun q => lower_lt v b (cover H lo hi) arr q (fun p hp => by rw [h.len]; exact (hr p hp).2)
  have hc := cover_under (lo := lo) hh hi'
  have h0 := h.ok i hi' b hb
  constructor
  · rintro ⟨p, h1, hu, hb'⟩
    rw [hlt] at hb'
    rcases hb' with hb' | ⟨hp, hv⟩
    · obtain ⟨t, ht, h2⟩ := h0.1 ⟨p, h1, hu, hb'⟩
      exact ⟨t, List.mem_cons_of_mem _ ht, h2⟩
    · have := hc.1 ⟨p, hp, hu⟩
      exact ⟨_, List.mem_cons_self .., this.1, this.2, hv⟩
  · rintro ⟨t, ht, h1, h2, h3⟩
    rcases List.mem_cons.1 ht with rfl | ht
    · obtain ⟨p, hp, hu⟩ := hc.2 ⟨h1, h2⟩
      exact ⟨p, (hr p hp).1, hu, (hlt p).2 (.inr ⟨hp, h3⟩)⟩
    · obtain ⟨p, hp1, hu, hb'⟩ := h0.2 ⟨t, ht, h1, h2, h3⟩
      exact ⟨p, hp1, hu, (hlt p).2 (.inl hb')⟩

end Go.Proofs.Qxb6612201a
