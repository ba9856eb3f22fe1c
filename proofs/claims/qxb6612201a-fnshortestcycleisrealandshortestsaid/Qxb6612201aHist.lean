/-
  PLAIN: A HISTORY AND ITS PRECEDENCE GRAPH.
-/
import Derived.Test.Qxb6612201aTree
namespace Go.Proofs.Qxb6612201a
set_option linter.unusedVariables false

/-- The columns of a history: kinds, transactions, lows, highs of its operations; its transactions' outcomes. -/
structure Hist where
  ks : List Int
  ts : List Int
  los : List Int
  his : List Int
  ocs : List Int

/-- Operation i is a read or a write of a committed transaction. -/
def Hist.Acc (h : Hist) (i : Nat) : Prop := (iAt h.ks i = 0 ∨ iAt h.ks i = 1) ∧ iAt h.ocs (iAt h.ts i).toNat = 1

/-- Operation i conflicts with operation j of another transaction. -/
def Hist.Conf (h : Hist) (i j : Nat) : Prop :=
  h.Acc i ∧ h.Acc j ∧ iAt h.ts j ≠ iAt h.ts i ∧ (iAt h.ks i = 1 ∨ iAt h.ks j = 1) ∧ max (iAt h.los i) (iAt h.los j) < min (iAt h.his i) (iAt h.his j)

/-- The precedence graph. -/
def Hist.Edge (h : Hist) (m u v : Nat) : Prop := ∃ i j, i < j ∧ j < m ∧ iAt h.ts i = u ∧ iAt h.ts j = v ∧ h.Conf i j

theorem Hist.edge_irrefl (h : Hist) (m v : Nat) : ¬ h.Edge m v v := by
  rintro ⟨i, j, _, _, h1, h2, hc⟩
  exact hc.2.2.1 (by rw [h1, h2])

def bAt (bs : List Bool) (x : Nat) : Bool := bs.getD x false

theorem bAt_set (bs : List Bool) (p q : Nat) (x : Bool) (hp : p < bs.length) : bAt (bs.set p x) q = if q = p then x else bAt bs q := by
  unfold bAt
  rw [List.getD_eq_getElem?_getD, List.getElem?_set]
  by_cases h : p = q
  · subst h; simp [hp]
  · rw [if_neg h, if_neg (fun e => h e.symm), List.getD_eq_getElem?_getD]

theorem bAt_replicate (n q : Nat) : bAt (List.replicate n false) q = false := by
  unfold bAt
  rw [List.getD_eq_getElem?_getD, List.getElem?_replicate]
  split <;> rfl

/-- The matrix after the pairs ahead of (i, j). -/
structure GraphAt (h : Hist) (m n i j : Nat) (bs : List Bool) : Prop where
  len : bs.length = n * n
  ok : ∀ x, bAt bs x = true ↔ ∃ i' j', i' < j' ∧ j' < m ∧ (i' < i ∨ (i' = i ∧ j' < j)) ∧ h.Conf i' j' ∧ x = (iAt h.ts i').toNat * n + (iAt h.ts j').toNat

theorem GraphAt.start (h : Hist) (m n : Nat) : GraphAt h m n 0 0 (List.replicate (n * n) false) :=
  ⟨by simp, fun x => by
    rw [bAt_replicate]
    constructor
    · intro h; cases h
    · rintro ⟨i', j', _, _, h1 | h1, _⟩ <;> omega⟩

/-- The pair adds nothing. -/
theorem GraphAt.skip {h : Hist} {m n i j : Nat} {bs : List Bool} (g : GraphAt h m n i j bs) (hn : ¬ h.Conf i j) : GraphAt h m n i (j + 1) bs :=
  ⟨g.len, fun x => by
    rw [g.ok x]
    constructor
    · rintro ⟨i', j', a1, a2, a3, a4, a5⟩
      exact ⟨i', j', a1, a2, by omega, a4, a5⟩
    · rintro ⟨i', j', a1, a2, a3, a4, a5⟩
      refine ⟨i', j', a1, a2, ?_, a4, a5⟩
      rcases a3 with a3 | ⟨rfl, a3⟩
      · exact .inl a3
      · by_cases e : j' = j
        · subst e; exact absurd a4 hn
        · exact .inr ⟨rfl, by omega⟩⟩

/-- The pair adds its edge. -/
theorem GraphAt.put {h : Hist} {m n i j : Nat} {bs : List Bool} (g : GraphAt h m n i j bs) (hij : i < j) (hj : j < m) (hc : h.Conf i j) (hx : (iAt h.ts i).toNat * n + (iAt h.ts j).toNat < n * n) :
    GraphAt h m n i (j + 1) (bs.set ((iAt h.ts i).toNat * n + (iAt h.ts j).toNat) true) :=
  ⟨by rw [List.length_set]; exact g.len, fun x => by
    rw [bAt_set _ _ _ _ (by rw [g.len]; exact hx)]
    by_cases e : x = (iAt h.ts i).toNat * n + (iAt h.ts j).toNat
    · rw [if_pos e]
      exact ⟨fun _ => ⟨i, j, hij, hj, .inr ⟨rfl, Nat.lt_succ_self _⟩, hc, e⟩, fun _ => rfl⟩
    · rw [if_neg e, g.ok x]
      constructor
      · rintro ⟨i', j', a1, a2, a3, a4, a5⟩
        exact ⟨i', j', a1, a2, by omega, a4, a5⟩
      · rintro ⟨i', j', a1, a2, a3, a4, a5⟩
        refine ⟨i', j', a1, a2, ?_, a4, a5⟩
        rcases a3 with a3 | ⟨rfl, a3⟩
        · exact .inl a3
        · by_cases e' : j' = j
          · subst e'; exact absurd a5 e
          · exact .inr ⟨rfl, by omega⟩⟩

/-- The row's end; or the operation has no part. -/
theorem GraphAt.next {h : Hist} {m n i j : Nat} {bs : List Bool} (g : GraphAt h m n i j bs) (hj : m ≤ j ∨ (j ≤ i + 1 ∧ ¬ h.Acc i)) : GraphAt h m n (i + 1) 0 bs :=
  ⟨g.len, fun x => by
    rw [g.ok x]
    constructor
    · rintro ⟨i', j', a1, a2, a3, a4, a5⟩
      exact ⟨i', j', a1, a2, by omega, a4, a5⟩
    · rintro ⟨i', j', a1, a2, a3, a4, a5⟩
      refine ⟨i', j', a1, a2, ?_, a4, a5⟩
      rcases Nat.lt_or_ge i' i with h1 | h1
      · exact .inl h1
      · have e : i' = i := by omega
        subst e
        rcases hj with hj | ⟨_, hj⟩
        · exact .inr ⟨rfl, by omega⟩
        · exact absurd a4.1 hj⟩

theorem GraphAt.first {h : Hist} {m n i : Nat} {bs : List Bool} (g : GraphAt h m n i 0 bs) : GraphAt h m n i (i + 1) bs :=
  ⟨g.len, fun x => by
    rw [g.ok x]
    constructor
    · rintro ⟨i', j', a1, a2, a3, a4, a5⟩
      exact ⟨i', j', a1, a2, by omega, a4, a5⟩
    · rintro ⟨i', j', a1, a2, a3, a4, a5⟩
      exact ⟨i', j', a1, a2, by omega, a4, a5⟩⟩

/-- The matrix tells the graph. -/
def Adj (E : Nat → Nat → Prop) (n : Nat) (bs : List Bool) : Prop := bs.length = n * n ∧ ∀ u v, u < n → v < n → (bAt bs (u * n + v) = true ↔ E u v)

theorem GraphAt.final {h : Hist} {m n : Nat} {bs : List Bool} (g : GraphAt h m n m 0 bs) (ht : ∀ i, i < m → 0 ≤ iAt h.ts i ∧ iAt h.ts i < n) : Adj (h.Edge m) n bs := by
  refine ⟨g.len, fun u v hu hv => ?_⟩
  rw [g.ok]
  constructor
  · rintro ⟨i, j, a1, a2, a3, a4, a5⟩
    have hi := ht i (by omega)
    have hj := ht j a2
    have e2 : (u * n + v) % n = ((iAt h.ts i).toNat * n + (iAt h.ts j).toNat) % n := by rw [a5]
    rw [Nat.mul_comm u n, Nat.mul_add_mod, Nat.mul_comm _ n, Nat.mul_add_mod, Nat.mod_eq_of_lt hv, Nat.mod_eq_of_lt (by omega)] at e2
    have e1 : u * n = (iAt h.ts i).toNat * n := by omega
    have e3 : u = (iAt h.ts i).toNat := Nat.eq_of_mul_eq_mul_right (by omega) e1
    exact ⟨i, j, a1, a2, by omega, by omega, a4⟩
  · rintro ⟨i, j, a1, a2, a3, a4, a5⟩
    exact ⟨i, j, a1, a2, .inl (by omega), a5, by rw [a3, a4]; simp⟩

end Go.Proofs.Qxb6612201a
