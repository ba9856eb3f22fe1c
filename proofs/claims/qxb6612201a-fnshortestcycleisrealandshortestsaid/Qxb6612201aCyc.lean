/-
  PLAIN: THE LEAST SHORTEST CYCLE THROUGH s, TAKEN STEP BY STEP.
-/
import Derived.Test.Qxb6612201aGraph
namespace Go.Proofs.Qxb6612201a

/-- w is the lowest successor of u at that level. -/
def IsLow (E : Nat → Nat → Prop) (d : Nat → Int) (u : Nat) (level : Int) (w : Nat) : Prop := E u w ∧ d w = level ∧ ∀ x, x < w → ¬ (E u x ∧ d x = level)

theorem IsLow.unique {E : Nat → Nat → Prop} {d : Nat → Int} {u w x : Nat} {level : Int} (h : IsLow E d u level w) (k : IsLow E d u level x) : w = x := by
  rcases Nat.lt_trichotomy w x with h1 | h1 | h1
  · exact absurd ⟨h.1, h.2.1⟩ (k.2.2 w h1)
  · exact h1
  · exact absurd ⟨k.1, k.2.1⟩ (h.2.2 x h1)

/-- From u on, a step down each time, till s is met. -/
def Tail (E : Nat → Nat → Prop) (d : Nat → Int) : Nat → List Nat → Prop
  | u, [] => d u = 0
  | u, x :: l => x = u ∧ 0 < d u ∧ ∃ w, IsLow E d u (d u - 1) w ∧ Tail E d w l

theorem Tail.stop {E : Nat → Nat → Prop} {d : Nat → Int} {u : Nat} (h : d u = 0) : Tail E d u [] := h
theorem Tail.step {E : Nat → Nat → Prop} {d : Nat → Int} {u w : Nat} {l : List Nat} (h1 : 0 < d u) (hl : IsLow E d u (d u - 1) w) (ht : Tail E d w l) : Tail E d u (u :: l) := ⟨rfl, h1, w, hl, ht⟩

theorem Tail.unique {E : Nat → Nat → Prop} {d : Nat → Int} : ∀ {l m : List Nat} {u : Nat}, Tail E d u l → Tail E d u m → l = m
  | [], [], _, _, _ => rfl
  | [], x :: m, u, h, k => by
    obtain ⟨_, h1, _⟩ := k
    have h0 : d u = 0 := h
    omega
  | x :: l, [], u, h, k => by
    obtain ⟨_, h1, _⟩ := h
    have h0 : d u = 0 := k
    omega
  | x :: l, y :: m, u, h, k => by
    obtain ⟨rfl, h1, w, hl, ht⟩ := h
    obtain ⟨rfl, _, w', hl', ht'⟩ := k
    obtain rfl := hl.unique hl'
    rw [Tail.unique ht ht']

/-- The cycle: s, then the lowest of the nearest successors, then down. -/
def Cyc (E : Nat → Nat → Prop) (d : Nat → Int) (s : Nat) (L : List Nat) : Prop :=
  ∃ u l m, L = s :: l ∧ 0 ≤ m ∧ IsLow E d s m u ∧ (∀ v, E s v → 0 ≤ d v → m ≤ d v) ∧ Tail E d u l

theorem Cyc.unique {E : Nat → Nat → Prop} {d : Nat → Int} {s : Nat} {L M : List Nat} (h : Cyc E d s L) (k : Cyc E d s M) : L = M := by
  obtain ⟨u, l, m, rfl, h0, hlow, hm, ht⟩ := h
  obtain ⟨u', l', m', rfl, h0', hlow', hm', ht'⟩ := k
  have e : m = m' := by
    have h1 := hm u' hlow'.1 (by rw [hlow'.2.1]; exact h0')
    have h2 := hm' u hlow.1 (by rw [hlow.2.1]; exact h0)
    rw [hlow'.2.1] at h1
    rw [hlow.2.1] at h2
    omega
  subst e
  obtain rfl := hlow.unique hlow'
  rw [ht.unique ht']

theorem Tail.length {E : Nat → Nat → Prop} {d : Nat → Int} : ∀ {l : List Nat} {u : Nat}, Tail E d u l → (l.length : Int) = d u
  | [], u, h => by
    have h0 : d u = 0 := h
    simp [h0]
  | x :: l, u, h => by
    obtain ⟨rfl, h1, w, hl, ht⟩ := h
    have ih := Tail.length ht
    rw [List.length_cons]
    have := hl.2.1
    omega

theorem Tail.at {E : Nat → Nat → Prop} {d : Nat → Int} : ∀ {l : List Nat} {u : Nat}, Tail E d u l → ∀ (k x : Nat), l[k]? = some x → d x = d u - k
  | [], _, _, k, x, hx => by simp at hx
  | y :: l, u, h, k, x, hx => by
    obtain ⟨rfl, h1, w, hl, ht⟩ := h
    cases k with
    | zero => obtain rfl : y = x := by simpa using hx
              simp
    | succ k =>
      rw [List.getElem?_cons_succ] at hx
      have := Tail.at ht k x hx
      have := hl.2.1
      omega

theorem Tail.head {E : Nat → Nat → Prop} {d : Nat → Int} {u : Nat} {l : List Nat} (h : Tail E d u l) (hp : 0 < d u) : l[0]? = some u := by
  cases l with
  | nil =>
    have h0 : d u = 0 := h
    omega
  | cons x l =>
    obtain ⟨rfl, _⟩ := h
    rfl

/-- Each has an edge to the next, the last one to s. -/
theorem Tail.edges {E : Nat → Nat → Prop} {d : Nat → Int} {s : Nat} (h0 : ∀ v, d v = 0 → v = s) : ∀ {l : List Nat} {u : Nat}, Tail E d u l →
    ∀ (k x : Nat), l[k]? = some x → E x (l.getD (k + 1) s)
  | [], _, _, k, x, hx => by simp at hx
  | y :: l, u, h, k, x, hx => by
    obtain ⟨rfl, h1, w, hl, ht⟩ := h
    cases k with
    | zero =>
      obtain rfl : y = x := by simpa using hx
      rw [List.getD_eq_getElem?_getD, List.getElem?_cons_succ]
      cases l with
      | nil =>
        have hw : d w = 0 := ht
        simp
        rw [← h0 w hw]
        exact hl.1
      | cons z l =>
        obtain ⟨rfl, _⟩ := ht
        exact hl.1
    | succ k =>
      rw [List.getElem?_cons_succ] at hx
      have := Tail.edges h0 ht k x hx
      rwa [List.getD_eq_getElem?_getD, List.getElem?_cons_succ, ← List.getD_eq_getElem?_getD]

theorem Tail.walk {E : Nat → Nat → Prop} {d : Nat → Int} : ∀ {l : List Nat} {u : Nat}, Tail E d u l → ∀ (k x : Nat), l[k]? = some x → Walk E u k x
  | [], _, _, k, x, hx => by simp at hx
  | y :: l, u, h, k, x, hx => by
    obtain ⟨rfl, h1, w, hl, ht⟩ := h
    cases k with
    | zero => obtain rfl : y = x := by simpa using hx
              exact Walk.zero
    | succ k =>
      rw [List.getElem?_cons_succ] at hx
      have := (Walk.one hl.1).trans (Tail.walk ht k x hx)
      rwa [Nat.add_comm] at this

section
variable {E : Nat → Nat → Prop} {s : Nat} {d f : Nat → Int}

theorem dist_zero (hd : IsDist (fun a b => E b a) s d) (v : Nat) (h : d v = 0) : v = s := by
  have := hd.sound v (by omega)
  rw [h] at this
  rcases this.first with ⟨_, h1⟩ | ⟨_, _, h1, _⟩
  · exact h1
  · simp at h1

theorem dist_self (hd : IsDist (fun a b => E b a) s d) : d s = 0 := by
  have := hd.least s 0 .zero
  omega

/-- What the second law asks of the answer. -/
theorem Cyc.real (hE : ∀ v, ¬ E v v) (hd : IsDist (fun a b => E b a) s d) {L : List Nat} (h : Cyc E d s L) :
    L[0]? = some s ∧ (∀ (k x : Nat), L[k]? = some x → E x (L.getD (k + 1) s)) ∧ (∀ (j k x : Nat), L[j]? = some x → L[k]? = some x → j = k) := by
  obtain ⟨u, l, m, rfl, h0, hlow, hm, ht⟩ := h
  have hz := dist_zero hd
  have hs := dist_self hd
  have hu : u ≠ s := fun e => hE s (by have := hlow.1; rwa [e] at this)
  have hm0 : 0 < m := by
    rcases Int.lt_or_le 0 m with h1 | h1
    · exact h1
    · exact absurd (hz u (by rw [hlow.2.1]; omega)) hu
  have hpu : 0 < d u := by rw [hlow.2.1]; exact hm0
  refine ⟨rfl, ?_, ?_⟩
  · intro k x hx
    cases k with
    | zero =>
      obtain rfl : s = x := by simpa using hx
      rw [List.getD_eq_getElem?_getD, List.getElem?_cons_succ, ht.head hpu]
      exact hlow.1
    | succ k =>
      rw [List.getElem?_cons_succ] at hx
      have := ht.edges hz k x hx
      rwa [List.getD_eq_getElem?_getD, List.getElem?_cons_succ, ← List.getD_eq_getElem?_getD]
  · have hpos : ∀ (k x : Nat), l[k]? = some x → 0 < d x := by
      intro k x hx
      have h1 := ht.at k x hx
      have h2 := ht.length
      have h3 := (List.getElem?_eq_some_iff.1 hx).1
      omega
    intro j k x hj hk
    cases j with
    | zero =>
      obtain rfl : s = x := by simpa using hj
      cases k with
      | zero => rfl
      | succ k =>
        rw [List.getElem?_cons_succ] at hk
        have := hpos k s hk
        omega
    | succ j =>
      rw [List.getElem?_cons_succ] at hj
      cases k with
      | zero =>
        obtain rfl : s = x := by simpa using hk
        have := hpos j s hj
        omega
      | succ k =>
        rw [List.getElem?_cons_succ] at hk
        have h1 := ht.at j x hj
        have h2 := ht.at k x hk
        omega

/-- Its length is the least of 1 + the distance from s to a predecessor of s. -/
theorem Cyc.shortest (hE : ∀ v, ¬ E v v) (hd : IsDist (fun a b => E b a) s d) (hf : IsDist E s f) {L : List Nat} (h : Cyc E d s L) :
    (∀ v, E v s → 0 ≤ f v → (L.length : Int) ≤ f v + 1) ∧ ∃ v, E v s ∧ 0 ≤ f v ∧ f v + 1 ≤ L.length := by
  obtain ⟨u, l, m, rfl, h0, hlow, hm, ht⟩ := h
  have hz := dist_zero hd
  have hs := dist_self hd
  have hu : u ≠ s := fun e => hE s (by have := hlow.1; rwa [e] at this)
  have hl := ht.length
  rw [hlow.2.1] at hl
  constructor
  · intro v hv hfv
    rw [List.length_cons]
    rcases (hf.sound v hfv).first with ⟨h1, h2⟩ | ⟨x, hx, hk, hw⟩
    · exact absurd (by rwa [h2] at hv) (hE s)
    · have hw2 := (Walk.succ hw hv).back
      have h3 := hd.least x _ hw2
      have h4 := hm x hx h3.1
      omega
  · have hm0 : 0 < m := by
      rcases Int.lt_or_le 0 m with h1 | h1
      · exact h1
      · exact absurd (hz u (by rw [hlow.2.1]; omega)) hu
    have hlen : 0 < l.length := by omega
    have hx : l[l.length - 1]? = some (l[l.length - 1]'(by omega)) := List.getElem?_eq_getElem (by omega)
    have he := ht.edges hz _ _ hx
    rw [show l.length - 1 + 1 = l.length by omega, List.getD_eq_getElem?_getD, List.getElem?_eq_none (Nat.le_refl _)] at he
    have hw := (Walk.one hlow.1).trans (ht.walk _ _ hx)
    have h3 := hf.least _ _ hw
    refine ⟨_, he, h3.1, ?_⟩
    rw [List.length_cons]
    have := h3.2
    omega

/-- A predecessor of s that s reaches gives a successor of s that reaches s. -/
theorem on_cycle (hE : ∀ v, ¬ E v v) (hd : IsDist (fun a b => E b a) s d) (hf : IsDist E s f) {v : Nat} (hv : E v s) (hfv : 0 ≤ f v) : ∃ x, E s x ∧ 0 ≤ d x := by
  rcases (hf.sound v hfv).first with ⟨h1, h2⟩ | ⟨x, hx, hk, hw⟩
  · exact absurd (by rwa [h2] at hv) (hE s)
  · exact ⟨x, hx, (hd.least x _ ((Walk.succ hw hv).back)).1⟩

end
end Go.Proofs.Qxb6612201a
