/-
  PLAIN: THE SEARCH WITHIN A ROUND, and lists that are taken from their front.
-/
import Derived.Test.Qxb6612201aGraph
import Derived.Test.Qxb6612201aTree
namespace Go.Proofs.Qxb6612201a
set_option linter.unusedVariables false

/-- The search stands at u; d is the distance that it gives. -/
structure Now (R : Nat → Nat → Prop) (n c s : Nat) (P : Nat → Prop) (u : Nat) (d : Int) (ds : List Int) (q : List Nat) : Prop where
  mid : Mid R s ds q P u
  dist : dAt ds u + 1 = d
  len : ds.length = n
  cnt : q.length + unmet ds ≤ n
  cap : q.length + unmet ds ≤ c

/-- What was met stays met. -/
def More (ds ds' : List Int) : Prop := ∀ v, 0 ≤ dAt ds v → 0 ≤ dAt ds' v
theorem More.refl (ds : List Int) : More ds ds := fun _ h => h
theorem More.trans {a b c : List Int} (h : More a b) (k : More b c) : More a c := fun v hv => k v (h v hv)

theorem Now.pos {R : Nat → Nat → Prop} {n c s : Nat} {P : Nat → Prop} {u : Nat} {d : Int} {ds : List Int} {q : List Nat} (h : Now R n c s P u d ds q) : 0 < d := by
  have := h.mid.posU
  have := h.dist
  omega

theorem More.step {ds : List Int} {v : Nat} {d : Int} (hv : v < ds.length) (hd : 0 ≤ d) : More ds (if dAt ds v < 0 then ds.set v d else ds) ∧ 0 ≤ dAt (if dAt ds v < 0 then ds.set v d else ds) v := by
  by_cases h : dAt ds v < 0
  · rw [if_pos h]
    constructor
    · intro x hx
      rw [dAt_set _ _ _ _ hv]
      split <;> omega
    · rw [dAt_set _ _ _ _ hv, if_pos rfl]
      exact hd
  · rw [if_neg h]
    exact ⟨More.refl _, by omega⟩

theorem Now.step {R : Nat → Nat → Prop} {n c s : Nat} {P : Nat → Prop} {u v : Nat} {d : Int} {ds : List Int} {q : List Nat} (h : Now R n c s P u d ds q) (hv : v < n) (hR : R u v ∨ v = u) :
    Now R n c s P u d (if dAt ds v < 0 then ds.set v d else ds) (if dAt ds v < 0 then q ++ [v] else q) := by
  have hl := h.len
  by_cases hlt : dAt ds v < 0
  · rw [if_pos hlt, if_pos hlt]
    have hu := h.mid.posU
    have hne : v ≠ u := fun e => by subst e; omega
    have hR' : R u v := hR.resolve_right hne
    have h1 := h.mid.reach hR' (by omega) hlt
    rw [h.dist] at h1
    have h2 := unmet_set ds v d (by omega) hlt (by have := h.pos; omega)
    refine ⟨h1, ?_, by rw [List.length_set]; exact hl, ?_, ?_⟩
    · rw [dAt_set _ _ _ _ (by omega), if_neg (Ne.symm hne)]
      exact h.dist
    · have := h.cnt
      simp only [List.length_append, List.length_cons, List.length_nil]
      omega
    · have := h.cap
      simp only [List.length_append, List.length_cons, List.length_nil]
      omega
  · rw [if_neg hlt, if_neg hlt]
    exact h

/-- Of each list the first so many are taken, and those are met. -/
structure Taken (N : Nat) (rows : Nat → List (Int × Int)) (tr ds : List Int) : Prop where
  len : tr.length = N
  low : ∀ q, q < N → 0 ≤ iAt tr q
  high : ∀ q, q < N → iAt tr q ≤ (rows q).length
  met : ∀ q, q < N → ∀ (k : Nat) (x : Int × Int), (k : Int) < iAt tr q → (rows q)[k]? = some x → 0 ≤ dAt ds x.2.toNat

theorem Taken.more {N : Nat} {rows : Nat → List (Int × Int)} {tr ds ds' : List Int} (h : Taken N rows tr ds) (hm : More ds ds') : Taken N rows tr ds' :=
  ⟨h.len, h.low, h.high, fun q hq k x hk hx => hm _ (h.met q hq k x hk hx)⟩

theorem Taken.set {N : Nat} {rows : Nat → List (Int × Int)} {tr ds : List Int} (h : Taken N rows tr ds) {q : Nat} (hq : q < N) {k : Nat} (hk : k ≤ (rows q).length) (hm : ∀ (j : Nat) (x : Int × Int), j < k → (rows q)[j]? = some x → 0 ≤ dAt ds x.2.toNat) : Taken N rows (tr.set q k) ds := by
  have hl := h.len
  have key : ∀ p, iAt (tr.set q (k : Int)) p = if p = q then (k : Int) else iAt tr p := fun p => iAt_set tr q p _ (by omega)
  refine ⟨by rw [List.length_set]; exact hl, fun p hp => ?_, fun p hp => ?_, fun p hp j x hj hx => ?_⟩
  · rw [key]; split
    · omega
    · exact h.low p hp
  · rw [key]; split
    · rename_i e; subst e; omega
    · exact h.high p hp
  · rw [key] at hj
    split at hj
    · rename_i e; subst e; exact hm j x (by omega) hx
    · exact h.met p hp j x hj hx

/-- The list is in order: what stands below a bound stands ahead of what does not. -/
theorem sorted_prefix {l : List (Int × Int)} (hs : l.Pairwise (fun a b => a.1 ≤ b.1)) {k : Nat} {b : Int} (hk : ∀ x, l[k]? = some x → b ≤ x.1) {j : Nat} {y : Int × Int} (hy : l[j]? = some y) (hb : y.1 < b) : j < k := by
  rcases Nat.lt_or_ge j k with h | h
  · exact h
  · exfalso
    have hj := (List.getElem?_eq_some_iff.1 hy).1
    have hk' : k < l.length := by omega
    have h1 := hk _ (List.getElem?_eq_getElem hk')
    rcases Nat.lt_or_ge k j with h2 | h2
    · have h3 := (List.pairwise_iff_getElem.1 hs) k j hk' hj h2
      have h4 := (List.getElem?_eq_some_iff.1 hy).2
      rw [h4] at h3
      omega
    · have e : k = j := by omega
      subst e
      rw [List.getElem?_eq_getElem hk'] at hy
      cases hy
      omega

end Go.Proofs.Qxb6612201a
