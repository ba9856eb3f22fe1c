/-
  PLAIN: places in sorted lists; what a transaction's operations say of another's.
-/
import Derived.Test.Qxb6612201aTree
namespace Go.Proofs.Qxb6612201a
set_option linter.unusedVariables false

theorem pw_weak {α : Type} {R S : α → α → Prop} (h : ∀ a b, R a b → S a b) : ∀ {l : List α}, l.Pairwise R → l.Pairwise S
  | [], _ => List.Pairwise.nil
  | a :: l, hp => by
    rw [List.pairwise_cons] at hp ⊢
    exact ⟨fun b hb => h _ _ (hp.1 b hb), pw_weak h hp.2⟩


def cntL (xs : List Int) (x : Int) : Nat := xs.countP (· < x)
def cntE (xs : List Int) (x : Int) : Nat := xs.countP (· ≤ x)

theorem cntL_le (xs : List Int) (x : Int) : cntL xs x ≤ xs.length := List.countP_le_length
theorem cntE_le (xs : List Int) (x : Int) : cntE xs x ≤ xs.length := List.countP_le_length

/-- In a sorted list the elements below x stand in front. -/
theorem lt_cntL : ∀ (xs : List Int) (x : Int), xs.Pairwise (· ≤ ·) → ∀ i, i < xs.length → (i < cntL xs x ↔ iAt xs i < x)
  | [], _, _, i, hi => by simp at hi
  | y :: xs, x, hs, i, hi => by
    obtain ⟨h1, h2⟩ := List.pairwise_cons.1 hs
    unfold cntL
    rw [List.countP_cons]
    cases i with
    | zero =>
      show 0 < _ ↔ y < x
      by_cases hy : y < x
      · simp [hy]
      · have h0 : xs.countP (· < x) = 0 := by
          rw [List.countP_eq_zero]
          intro z hz
          have := h1 z hz
          simp
          omega
        simp [hy, h0]
    | succ i =>
      have ih := lt_cntL xs x h2 i (by simpa using hi)
      unfold cntL at ih
      show _ ↔ iAt xs i < x
      rw [← ih]
      by_cases hy : y < x
      · simp [hy]
      · have h0 : xs.countP (· < x) = 0 := by
          rw [List.countP_eq_zero]
          intro z hz
          have := h1 z hz
          simp
          omega
        rw [h0]
        simp [hy]

/-- The places from cntL lo up to cntL hi bear the values from lo up to hi. -/
theorem between {xs : List Int} (hs : xs.Pairwise (· ≤ ·)) {lo hi : Int} {i : Nat} (hi' : i < xs.length) : (cntL xs lo ≤ i ∧ i < cntL xs hi) ↔ (lo ≤ iAt xs i ∧ iAt xs i < hi) := by
  have h1 := lt_cntL xs lo hs i hi'
  have h2 := lt_cntL xs hi hs i hi'
  constructor
  · rintro ⟨a, b⟩
    exact ⟨by rcases Int.lt_or_le (iAt xs i) lo with h | h; · exact absurd (h1.2 h) (by omega)
              · exact h, h2.1 b⟩
  · rintro ⟨a, b⟩
    exact ⟨by rcases Nat.lt_or_ge i (cntL xs lo) with h | h; · exact absurd (h1.1 h) (by omega)
              · exact h, h2.2 b⟩

theorem cnt_mono (xs : List Int) (x y : Int) (h : x < y) : cntE xs x ≤ cntL xs y := by
  unfold cntE cntL
  exact List.countP_mono_left (fun z _ hz => by simp at hz ⊢; omega)

/-- A member's place, against the places at x. -/
theorem mem_place : ∀ {xs : List Int} {r : Int}, r ∈ xs → ∀ (x : Int), (cntL xs r < cntE xs x ↔ r ≤ x) := by
  intro xs r hr x
  constructor
  · intro h
    rcases Int.lt_or_le x r with h1 | h1
    · have := cnt_mono xs x r h1
      omega
    · exact h1
  · intro h
    unfold cntL cntE
    obtain ⟨a, b, rfl⟩ := List.append_of_mem hr
    rw [List.countP_append, List.countP_append, List.countP_cons, List.countP_cons]
    have h1 : a.countP (· < r) ≤ a.countP (· ≤ x) := List.countP_mono_left (fun z _ hz => by simp at hz ⊢; omega)
    have h2 : b.countP (· < r) ≤ b.countP (· ≤ x) := List.countP_mono_left (fun z _ hz => by simp at hz ⊢; omega)
    simp [h]
    omega

/-- Of a list without repeats: where x stands. -/
theorem cntE_of_mem : ∀ {xs : List Int} {x : Int}, xs.Nodup → x ∈ xs → cntE xs x = cntL xs x + 1
  | y :: xs, x, hn, hx => by
    obtain ⟨h1, h2⟩ := List.nodup_cons.1 hn
    unfold cntE cntL
    rw [List.countP_cons, List.countP_cons]
    rcases List.mem_cons.1 hx with rfl | hx
    · have : xs.countP (· ≤ x) = xs.countP (· < x) := by
        refine List.countP_congr (fun z hz => ?_)
        have : z ≠ x := fun e => h1 (e ▸ hz)
        simp
        omega
      rw [this]
      simp
    · have ih := cntE_of_mem h2 hx
      unfold cntE cntL at ih
      have hne : y ≠ x := fun e => h1 (e ▸ hx)
      rw [ih]
      by_cases hy : y < x
      · simp [hy, Int.le_of_lt hy]
      · simp [hy]
        omega

theorem cntE_of_not : ∀ {xs : List Int} {x : Int}, x ∉ xs → cntE xs x = cntL xs x
  | xs, x, hx => by
    unfold cntE cntL
    refine List.countP_congr (fun z hz => ?_)
    have : z ≠ x := fun e => hx (e ▸ hz)
    simp
    omega

/-- m is the least 'first' of the writes of items from lo up to hi. -/
def WSays (zs : List (Int × Int × Int)) (lo hi m : Int) : Prop := ∀ b : Int, b ≤ 9223372036854775807 → (m < b ↔ ∃ t ∈ zs, lo ≤ t.1 ∧ t.1 < hi ∧ t.2.1 < b)
/-- m is the least place of the reads that hold x. -/
def RSays (rs : List (Int × Int × Int)) (x m : Int) : Prop := ∀ b : Int, b ≤ 9223372036854775807 → (m < b ↔ ∃ r ∈ rs, r.1 ≤ x ∧ x < r.2.1 ∧ r.2.2 < b)

/-- An operation of u comes ahead of one of v that it meets. -/
def Prec (uw ur vw vr : List (Int × Int × Int)) : Prop :=
  (∃ w ∈ vw, (∃ t ∈ uw, t.1 = w.1 ∧ t.2.1 < w.2.2) ∨ (∃ r ∈ ur, r.1 ≤ w.1 ∧ w.1 < r.2.1 ∧ r.2.2 < w.2.2)) ∨ ∃ r ∈ vr, ∃ t ∈ uw, r.1 ≤ t.1 ∧ t.1 < r.2.1 ∧ t.2.1 < r.2.2

/-- What firstRead bears: the reads at the places of their ends. -/
theorem RSays.place {bs : List Int} {rs : List (Int × Int × Int)} (hm : ∀ r ∈ rs, r.1 ∈ bs ∧ r.2.1 ∈ bs) {x : Int} {k : Nat} (hk : cntE bs x = k + 1) (r : Int × Int × Int) (hr : r ∈ rs) :
    (cntL bs r.1 ≤ k ∧ k < cntL bs r.2.1) ↔ (r.1 ≤ x ∧ x < r.2.1) := by
  have h1 := mem_place (hm r hr).1 x
  have h2 := mem_place (hm r hr).2 x
  rw [hk] at h1 h2
  omega

end Go.Proofs.Qxb6612201a
