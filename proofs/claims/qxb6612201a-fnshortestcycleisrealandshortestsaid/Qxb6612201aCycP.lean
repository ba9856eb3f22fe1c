/-
  PLAIN: THE LEVELS OF THE DISTANCE, AND THE CYCLE TAKEN STEP BY STEP.
-/
import Derived.Test.Qxb6612201aCyc
namespace Go.Proofs.Qxb6612201a
set_option linter.unusedVariables false

/-- A step towards s. -/
theorem step_down {E : Nat → Nat → Prop} {d : Nat → Int} {s u : Nat} (hd : IsDist (fun a b => E b a) s d) (h : 0 < d u) : ∃ w, E u w ∧ d w = d u - 1 := by
  have hw := hd.sound u (by omega)
  obtain ⟨k, hk⟩ : ∃ k, (d u).toNat = k + 1 := ⟨(d u).toNat - 1, by omega⟩
  rw [hk] at hw
  obtain ⟨w, hw', hr⟩ := hw
  refine ⟨w, hr, ?_⟩
  have h1 := hd.least w k hw'
  have h2 := hd.least u _ (Walk.succ (hd.sound w h1.1) hr)
  omega

/-- The transactions at distance d, ascending. -/
structure IsLev (n : Nat) (dist : Nat → Int) (d : Int) (lv : List Nat) : Prop where
  up : lv.Pairwise (· < ·)
  mem : ∀ v, v ∈ lv ↔ v < n ∧ dist v = d

theorem IsLev.low {E : Nat → Nat → Prop} {n : Nat} {dist : Nat → Int} {d : Int} {lv : List Nat} (h : IsLev n dist d lv) (hE : ∀ u v, E u v → u < n ∧ v < n) {u i v : Nat} (hi : lv[i]? = some v) (hv : E u v) (hn : ∀ j x, j < i → lv[j]? = some x → ¬ E u x) : IsLow E dist u d v := by
  refine ⟨hv, ((h.mem v).1 (List.mem_of_getElem? hi)).2, fun x hx hc => ?_⟩
  have hm := (h.mem x).2 ⟨(hE _ _ hc.1).2, hc.2⟩
  obtain ⟨j, hj⟩ := List.mem_iff_getElem?.1 hm
  have hjl := (List.getElem?_eq_some_iff.1 hj)
  have hil := (List.getElem?_eq_some_iff.1 hi)
  obtain ⟨hj1, hj2⟩ := hjl
  obtain ⟨hi1, hi2⟩ := hil
  refine hn j x ?_ hj hc.1
  rcases Nat.lt_trichotomy j i with h1 | h1 | h1
  · exact h1
  · subst h1; omega
  · have := (List.pairwise_iff_getElem.1 h.up) i j hi1 hj1 h1
    omega

/-- The cycle so far: s, then l1; u comes next. -/
def PreCyc (E : Nat → Nat → Prop) (d : Nat → Int) (s : Nat) (l1 : List Nat) (u : Nat) : Prop := ∀ l2, Tail E d u l2 → Cyc E d s (s :: (l1 ++ l2))

theorem PreCyc.start {E : Nat → Nat → Prop} {d : Nat → Int} {s u : Nat} {m : Int} (hm : 0 ≤ m) (h : IsLow E d s m u) (hmin : ∀ v, E s v → 0 ≤ d v → m ≤ d v) : PreCyc E d s [] u := fun l2 ht => ⟨u, l2, m, rfl, hm, h, hmin, ht⟩

theorem PreCyc.step {E : Nat → Nat → Prop} {d : Nat → Int} {s u w : Nat} {l1 : List Nat} (h : PreCyc E d s l1 u) (hp : 0 < d u) (hl : IsLow E d u (d u - 1) w) : PreCyc E d s (l1 ++ [u]) w := fun l2 ht => by
  have := h (u :: l2) (Tail.step hp hl ht)
  rwa [List.append_assoc, List.singleton_append]

theorem PreCyc.final {E : Nat → Nat → Prop} {d : Nat → Int} {s u : Nat} {l1 : List Nat} (h : PreCyc E d s l1 u) (h0 : d u = 0) : Cyc E d s (s :: l1) := by
  have := h [] (Tail.stop h0)
  rwa [List.append_nil] at this

end Go.Proofs.Qxb6612201a
