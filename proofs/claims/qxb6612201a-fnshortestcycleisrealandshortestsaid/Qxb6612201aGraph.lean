/-
  PLAIN: WALKS IN A GRAPH, A BREADTH-FIRST SEARCH, THE DISTANCES THAT IT FINDS.
-/
namespace Go.Proofs.Qxb6612201a

/-- A walk of k steps from s. -/
def Walk (R : Nat → Nat → Prop) (s : Nat) : Nat → Nat → Prop
  | 0, v => v = s
  | k + 1, v => ∃ u, Walk R s k u ∧ R u v

theorem Walk.zero {R : Nat → Nat → Prop} {s : Nat} : Walk R s 0 s := rfl
theorem Walk.succ {R : Nat → Nat → Prop} {s k u v : Nat} (h : Walk R s k u) (hr : R u v) : Walk R s (k + 1) v := ⟨u, h, hr⟩

theorem Walk.mono {R S : Nat → Nat → Prop} (h : ∀ u v, R u v → S u v) {s : Nat} : ∀ {k v : Nat}, Walk R s k v → Walk S s k v
  | 0, _, hw => hw
  | _ + 1, _, ⟨u, hw, hr⟩ => ⟨u, Walk.mono h hw, h _ _ hr⟩

theorem Walk.trans {R : Nat → Nat → Prop} {s u : Nat} {j : Nat} (h1 : Walk R s j u) : ∀ {k v : Nat}, Walk R u k v → Walk R s (j + k) v
  | 0, v, h2 => by
    obtain rfl : v = u := h2
    exact h1
  | _ + 1, _, ⟨x, h2, hr⟩ => ⟨x, Walk.trans h1 h2, hr⟩

theorem Walk.one {R : Nat → Nat → Prop} {u v : Nat} (h : R u v) : Walk R u 1 v := Walk.succ Walk.zero h

/-- The first step of a walk. -/
theorem Walk.first {R : Nat → Nat → Prop} {s : Nat} : ∀ {k v : Nat}, Walk R s k v → (k = 0 ∧ v = s) ∨ ∃ u, R s u ∧ 0 < k ∧ Walk R u (k - 1) v
  | 0, _, h => .inl ⟨rfl, h⟩
  | k + 1, v, ⟨u, h, hr⟩ => by
    right
    rcases Walk.first h with ⟨rfl, rfl⟩ | ⟨x, hx, hk, hw⟩
    · exact ⟨v, hr, Nat.succ_pos _, Walk.zero⟩
    · refine ⟨x, hx, Nat.succ_pos _, ?_⟩
      have := Walk.succ hw hr
      rwa [show k - 1 + 1 = k + 1 - 1 by omega] at this

/-- The walk turned round. -/
theorem Walk.back {R : Nat → Nat → Prop} {s : Nat} : ∀ {k v : Nat}, Walk R s k v → Walk (fun a b => R b a) v k s
  | 0, v, h => by
    obtain rfl : v = s := h
    exact Walk.zero
  | k + 1, v, ⟨u, h, hr⟩ => by
    have := (Walk.one (R := fun a b => R b a) (u := v) (v := u) hr).trans (Walk.back h)
    rwa [Nat.add_comm] at this

/-- d tells the distances from s. -/
structure IsDist (R : Nat → Nat → Prop) (s : Nat) (d : Nat → Int) : Prop where
  sound : ∀ v, 0 ≤ d v → Walk R s (d v).toNat v
  least : ∀ v k, Walk R s k v → 0 ≤ d v ∧ d v ≤ k

theorem IsDist.ext {R : Nat → Nat → Prop} {s : Nat} {d e : Nat → Int} (hd : IsDist R s d) (he : IsDist R s e) (nd : ∀ v, d v < 0 → d v = -1) (ne : ∀ v, e v < 0 → e v = -1) (v : Nat) : d v = e v := by
  rcases Int.lt_or_le (d v) 0 with h | h
  · rcases Int.lt_or_le (e v) 0 with h' | h'
    · rw [nd v h, ne v h']
    · have := (hd.least v _ (he.sound v h')).1
      omega
  · have h1 := he.least v _ (hd.sound v h)
    have h2 := hd.least v _ (he.sound v h1.1)
    omega

/-- The list's reading as distances. -/
def dAt (ds : List Int) (v : Nat) : Int := ds.getD v (-1)

theorem dAt_set (ds : List Int) (v u : Nat) (x : Int) (hv : v < ds.length) : dAt (ds.set v x) u = if u = v then x else dAt ds u := by
  unfold dAt
  rw [List.getD_eq_getElem?_getD, List.getElem?_set]
  by_cases h : v = u
  · subst h; simp [hv]
  · rw [if_neg h, if_neg (fun e => h e.symm), List.getD_eq_getElem?_getD]

/-- How many are not reached. -/
def unmet (ds : List Int) : Nat := ds.countP (· < 0)

theorem unmet_set : ∀ (ds : List Int) (v : Nat) (x : Int), v < ds.length → dAt ds v < 0 → 0 ≤ x → unmet (ds.set v x) + 1 = unmet ds
  | [], v, x, h, _, _ => by simp at h
  | y :: ds, 0, x, _, hy, hx => by
    have h1 : y < 0 := by simpa [dAt] using hy
    simp only [List.set_cons_zero, unmet, List.countP_cons]
    rw [if_neg (by simp; omega), if_pos (by simpa using h1)]
  | y :: ds, v + 1, x, h, hy, hx => by
    have ih := unmet_set ds v x (by simpa using h) (by simpa [dAt] using hy) hx
    simp only [List.set_cons_succ, unmet, List.countP_cons] at ih ⊢
    omega

theorem unmet_le (ds : List Int) : unmet ds ≤ ds.length := List.countP_le_length

/-- BETWEEN ROUNDS: q waits, those of P are done. -/
structure Bfs (R : Nat → Nat → Prop) (s : Nat) (ds : List Int) (q : List Nat) (P : Nat → Prop) : Prop where
  at0 : dAt ds s = 0
  sound : ∀ v, 0 ≤ dAt ds v → Walk R s (dAt ds v).toNat v
  neg : ∀ v, dAt ds v < 0 → dAt ds v = -1
  seen : ∀ v, 0 ≤ dAt ds v ↔ v ∈ q ∨ P v
  sorted : q.Pairwise (fun a b => dAt ds a ≤ dAt ds b)
  low : ∀ p, P p → ∀ a ∈ q, dAt ds p ≤ dAt ds a
  near : ∀ a rest, q = a :: rest → ∀ v, dAt ds v ≤ dAt ds a + 1
  closed : ∀ u, P u → ∀ v, R u v → 0 ≤ dAt ds v ∧ dAt ds v ≤ dAt ds u + 1
  small : ∀ v, dAt ds v + (unmet ds : Int) < ds.length

/-- WITHIN A ROUND: u is being done. -/
structure Mid (R : Nat → Nat → Prop) (s : Nat) (ds : List Int) (q : List Nat) (P : Nat → Prop) (u : Nat) : Prop where
  at0 : dAt ds s = 0
  sound : ∀ v, 0 ≤ dAt ds v → Walk R s (dAt ds v).toNat v
  neg : ∀ v, dAt ds v < 0 → dAt ds v = -1
  seen : ∀ v, 0 ≤ dAt ds v ↔ v ∈ q ∨ P v ∨ v = u
  sorted : q.Pairwise (fun a b => dAt ds a ≤ dAt ds b)
  lowP : ∀ p, P p → dAt ds p ≤ dAt ds u
  lowQ : ∀ a ∈ q, dAt ds u ≤ dAt ds a
  near : ∀ v, dAt ds v ≤ dAt ds u + 1
  closed : ∀ u, P u → ∀ v, R u v → 0 ≤ dAt ds v ∧ dAt ds v ≤ dAt ds u + 1
  small : ∀ v, dAt ds v + (unmet ds : Int) < ds.length

theorem Mid.posU {R : Nat → Nat → Prop} {s : Nat} {ds : List Int} {q : List Nat} {P : Nat → Prop} {u : Nat} (h : Mid R s ds q P u) : 0 ≤ dAt ds u := (h.seen u).2 (.inr (.inr rfl))

theorem lt_of_dAt {ds : List Int} {v : Nat} (h : 0 ≤ dAt ds v) : v < ds.length := by
  rcases Nat.lt_or_ge v ds.length with h' | h'
  · exact h'
  · unfold dAt at h
    rw [List.getD_eq_getElem?_getD, List.getElem?_eq_none h'] at h
    simp at h

theorem Bfs.pop {R : Nat → Nat → Prop} {s : Nat} {ds : List Int} {q : List Nat} {P : Nat → Prop} {u : Nat} (h : Bfs R s ds (u :: q) P) : Mid R s ds q P u where
  at0 := h.at0
  sound := h.sound
  neg := h.neg
  seen v := by
    rw [h.seen v, List.mem_cons]
    constructor
    · rintro ((rfl | h1) | h1)
      · exact .inr (.inr rfl)
      · exact .inl h1
      · exact .inr (.inl h1)
    · rintro (h1 | h1 | rfl)
      · exact .inl (.inr h1)
      · exact .inr h1
      · exact .inl (.inl rfl)
  sorted := (List.pairwise_cons.1 h.sorted).2
  lowP p hp := h.low p hp u (List.mem_cons_self ..)
  lowQ a ha := (List.pairwise_cons.1 h.sorted).1 a ha
  near := h.near u q rfl
  closed := h.closed
  small := h.small

theorem Mid.reach {R : Nat → Nat → Prop} {s : Nat} {ds : List Int} {q : List Nat} {P : Nat → Prop} {u v : Nat} (h : Mid R s ds q P u) (hR : R u v) (hv : v < ds.length) (hn : dAt ds v < 0) :
    Mid R s (ds.set v (dAt ds u + 1)) (q ++ [v]) P u := by
  have hu := h.posU
  have huv : u ≠ v := fun e => by subst e; omega
  have key : ∀ x, dAt (ds.set v (dAt ds u + 1)) x = if x = v then dAt ds u + 1 else dAt ds x := fun x => dAt_set ds v x _ hv
  have keyu : dAt (ds.set v (dAt ds u + 1)) u = dAt ds u := by rw [key, if_neg huv]
  have old : ∀ x, 0 ≤ dAt ds x → dAt (ds.set v (dAt ds u + 1)) x = dAt ds x := fun x hx => by
    rw [key, if_neg]
    intro e
    subst e
    omega
  have un := unmet_set ds v (dAt ds u + 1) hv hn (by omega)
  exact
  { at0 := by rw [old s (by rw [h.at0]; exact Int.le_refl _)]; exact h.at0
    sound := fun x hx => by
      rw [key] at hx ⊢
      by_cases hxv : x = v
      · subst hxv
        rw [if_pos rfl]
        have := Walk.succ (h.sound u hu) hR
        rwa [show (dAt ds u).toNat + 1 = (dAt ds u + 1).toNat by omega] at this
      · rw [if_neg hxv] at hx ⊢
        exact h.sound x hx
    neg := fun x hx => by
      rw [key] at hx ⊢
      by_cases hxv : x = v
      · rw [if_pos hxv] at hx; omega
      · rw [if_neg hxv] at hx ⊢; exact h.neg x hx
    seen := fun x => by
      rw [key, List.mem_append, List.mem_singleton]
      by_cases hxv : x = v
      · rw [if_pos hxv]
        exact ⟨fun _ => .inl (.inr hxv), fun _ => by omega⟩
      · rw [if_neg hxv, h.seen x]
        constructor
        · rintro (h1 | h1)
          · exact .inl (.inl h1)
          · exact .inr h1
        · rintro ((h1 | h1) | h1)
          · exact .inl h1
          · exact absurd h1 hxv
          · exact .inr h1
    sorted := by
      rw [List.pairwise_append]
      refine ⟨h.sorted.imp_of_mem fun ha hb hab => ?_, by simp, fun a ha b hb => ?_⟩
      · rw [old _ ((h.seen _).2 (.inl ha)), old _ ((h.seen _).2 (.inl hb))]; exact hab
      · rw [List.mem_singleton] at hb
        subst hb
        rw [old _ ((h.seen _).2 (.inl ha)), key, if_pos rfl]
        exact h.near a
    lowP := fun p hp => by
      rw [keyu, old p ((h.seen p).2 (.inr (.inl hp)))]
      exact h.lowP p hp
    lowQ := fun a ha => by
      rw [keyu]
      rcases List.mem_append.1 ha with ha | ha
      · rw [old a ((h.seen a).2 (.inl ha))]; exact h.lowQ a ha
      · rw [List.mem_singleton] at ha
        subst ha
        rw [key, if_pos rfl]
        omega
    near := fun x => by
      rw [keyu, key]
      by_cases hxv : x = v
      · rw [if_pos hxv]; exact Int.le_refl _
      · rw [if_neg hxv]; exact h.near x
    closed := fun p hp x hx => by
      obtain ⟨h1, h2⟩ := h.closed p hp x hx
      rw [old x h1, old p ((h.seen p).2 (.inr (.inl hp)))]
      exact ⟨h1, h2⟩
    small := fun x => by
      rw [List.length_set, key]
      have h1 := h.small x
      have h2 := h.small u
      by_cases hxv : x = v
      · rw [if_pos hxv]; omega
      · rw [if_neg hxv]; omega }

theorem Mid.done {R : Nat → Nat → Prop} {s : Nat} {ds : List Int} {q : List Nat} {P : Nat → Prop} {u : Nat} (h : Mid R s ds q P u) (hall : ∀ v, R u v → 0 ≤ dAt ds v) : Bfs R s ds q (fun x => P x ∨ x = u) where
  at0 := h.at0
  sound := h.sound
  neg := h.neg
  seen := h.seen
  sorted := h.sorted
  low p hp a ha := by
    rcases hp with hp | rfl
    · exact Int.le_trans (h.lowP p hp) (h.lowQ a ha)
    · exact h.lowQ a ha
  near a rest hq v := by
    have := h.near v
    have := h.lowQ a (by rw [hq]; exact List.mem_cons_self ..)
    omega
  closed x hx v hv := by
    rcases hx with hx | rfl
    · exact h.closed x hx v hv
    · exact ⟨hall v hv, h.near v⟩
  small := h.small

theorem Bfs.final {R : Nat → Nat → Prop} {s : Nat} {ds : List Int} {P : Nat → Prop} (h : Bfs R s ds [] P) : IsDist R s (dAt ds) where
  sound := h.sound
  least v k hw := by
    induction k generalizing v with
    | zero =>
      obtain rfl : v = s := hw
      rw [h.at0]
      exact ⟨Int.le_refl _, Int.le_refl _⟩
    | succ k ih0 =>
      obtain ⟨u, hu, hr⟩ := hw
      have ih := ih0 u hu
      have hp : P u := by
        rcases (h.seen u).1 ih.1 with h1 | h1
        · cases h1
        · exact h1
      have := h.closed u hp v hr
      omega

theorem dAt_replicate (n v : Nat) : dAt (List.replicate n (-1)) v = -1 := by
  unfold dAt
  rw [List.getD_eq_getElem?_getD, List.getElem?_replicate]
  split <;> rfl

theorem unmet_replicate (n : Nat) : unmet (List.replicate n (-1)) = n := by
  unfold unmet
  rw [List.countP_replicate]
  simp

theorem Bfs.start (R : Nat → Nat → Prop) (s n : Nat) (hs : s < n) : Bfs R s ((List.replicate n (-1)).set s 0) [s] (fun _ => False) := by
  have hl : s < (List.replicate n (-1 : Int)).length := by simpa using hs
  have key : ∀ x, dAt ((List.replicate n (-1)).set s 0) x = if x = s then 0 else -1 := fun x => by rw [dAt_set _ _ _ _ hl, dAt_replicate]
  have un := unmet_set (List.replicate n (-1)) s 0 hl (by rw [dAt_replicate]; decide) (by decide)
  rw [unmet_replicate] at un
  have pos : ∀ x, 0 ≤ dAt ((List.replicate n (-1)).set s 0) x → x = s := fun x hx => by
    rw [key] at hx
    split at hx
    · assumption
    · omega
  exact
  { at0 := by rw [key, if_pos rfl]
    sound := fun v hv => by
      obtain rfl := pos v hv
      rw [key, if_pos rfl]
      exact .zero
    neg := fun v hv => by
      rw [key] at hv ⊢
      split at hv
      · omega
      · rw [if_neg (by assumption)]
    seen := fun v => by
      rw [List.mem_singleton]
      refine ⟨fun hv => .inl (pos v hv), ?_⟩
      rintro (rfl | h)
      · rw [key, if_pos rfl]; exact Int.le_refl _
      · exact h.elim
    sorted := by simp
    low := fun p hp => hp.elim
    near := fun a rest hq v => by
      obtain ⟨rfl, _⟩ : s = a ∧ [] = rest := by simpa using hq
      rw [key, key, if_pos rfl]
      split <;> omega
    closed := fun u hu => hu.elim
    small := fun v => by
      rw [key, List.length_set, List.length_replicate]
      split <;> omega }

end Go.Proofs.Qxb6612201a
