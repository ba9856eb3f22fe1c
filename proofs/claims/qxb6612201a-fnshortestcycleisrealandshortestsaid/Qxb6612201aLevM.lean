/-
  WALK: shortestCycle's levels.
-/
import Derived.Test.Qxb6612201aPh2
import Derived.Test.Qxb6612201aGraph
import Derived.Shelf.Abstract
import Derived.Maps.AppendAt
namespace Go.Proofs.Qxb6612201a
open Go.RowKit Go.Shelf
set_option linter.unusedVariables false
set_option linter.unusedSimpArgs false

theorem Try.info22 : (Try.prog.info? 22).map (fun i => (i.zero, i.size, i.bytes)) = some (some (.slice none 0 0), 1, 24) := by kernel_rfl

/-- The levels' memory: the outer slice, the inner ones. -/
structure LevMem (w0 : World) (v33 : Value) (vals : List Value) (lv : List (List Nat)) (w : World) : Prop where
  out : w.ownsRow w0.heap.size 22 1 v33 vals.length vals
  len : lv.length = vals.length
  inn : ∀ (d : Nat) (v : Value) (l : List Nat), vals[d]? = some v → lv[d]? = some l → w.ownsRow w0.heap.size 3 1 v l.length (l.map fun x : Nat => Value.int .i64 (x : Int))
  apart : ∀ (d d' : Nat) (v v' : Value) (k : Nat), d ≠ d' → vals[d]? = some v → vals[d']? = some v' → v.ownBlock = some k → v'.ownBlock ≠ some k
  below : Below w0.heap.size w0 w

/-- Rows of two types do not lie in one block. -/
theorem own_apart {w : World} {B B' e e' sz sz' n n' : Nat} {v v' : Value} {xs xs' : List Value} (h : w.ownsRow B e sz v n xs) (h' : w.ownsRow B' e' sz' v' n' xs') (hne : e ≠ e') {k : Nat} (hk : v.ownBlock = some k) : v'.ownBlock ≠ some k := fun hk' => by
  rcases h.2 with ⟨h0, _⟩ | ⟨g, c, cur, hv, _, hg, _⟩
  · rw [h0] at hk; cases hk
  rcases h'.2 with ⟨h0, _⟩ | ⟨g', c', cur', hv', _, hg', _⟩
  · rw [h0] at hk'; cases hk'
  rw [hv] at hk
  rw [hv'] at hk'
  have e1 : g = k := by simpa [Value.ownBlock] using hk
  have e2 : g' = k := by simpa [Value.ownBlock] using hk'
  subst e1
  subst e2
  rw [hg] at hg'
  cases hg'
  exact hne rfl

theorem LevMem.nil (w : World) : LevMem w (.slice none 0 0) [] [] w :=
  ⟨⟨rfl, .inl ⟨rfl, rfl⟩⟩, rfl, fun d v l hd => by simp at hd, fun d d' v v' k _ hd => by simp at hd, Below.refl _ _⟩

/-- Nothing of it has turned. -/
theorem LevMem.kept {w0 w w' : World} {v33 : Value} {vals : List Value} {lv : List (List Nat)} (h : LevMem w0 v33 vals lv w) (ht : Turned [] w w') : LevMem w0 v33 vals lv w' :=
  ⟨own_turned h.out ht (by simp), h.len, fun d v l hd hl => own_turned (h.inn d v l hd hl) ht (by simp), h.apart, h.below.trans (ht.below h.below.size (by simp))⟩

/-- 'levels = append(levels, nil)'. -/
theorem LevMem.more {w0 w w' : World} {v33 v' : Value} {vals : List Value} {lv : List (List Nat)} (h : LevMem w0 v33 vals lv w) (hg : w.grownBy w' v33.ownBlock) (ho : w'.ownsRow w0.heap.size 22 1 v' (vals.length + 1) (vals ++ [.slice none 0 0])) : LevMem w0 v' (vals ++ [.slice none 0 0]) (lv ++ [[]]) w' := by
  have ht : Turned v33.ownBlock.toList w w' := Turned.of_grown hg _ (fun k hk => by rw [hk]; simp)
  refine ⟨by rw [List.length_append]; exact ho, by simp [h.len], fun d v l hd hl => ?_, fun d d' v v2 k hne hd hd' hk => ?_, h.below.grown hg h.below.size (fun k hk => (h.out.lt k hk).1)⟩
  · by_cases e : d < vals.length
    · rw [List.getElem?_append_left e] at hd
      rw [List.getElem?_append_left (by rw [h.len]; exact e)] at hl
      have h1 := h.inn d v l hd hl
      exact own_turned h1 ht (fun k hk hm => own_apart h1 h.out (by decide) hk (Option.mem_toList.1 hm))
    · have hdl := (List.getElem?_eq_some_iff.1 hd).1
      have e2 : d = vals.length := by simp at hdl; omega
      subst e2
      rw [List.getElem?_append_right (Nat.le_refl _)] at hd
      rw [List.getElem?_append_right (by rw [h.len]; exact Nat.le_refl _)] at hl
      simp at hd
      simp [h.len] at hl
      subst hd
      subst hl
      exact ⟨rfl, .inl ⟨rfl, rfl⟩⟩
  · by_cases e : d < vals.length
    · by_cases e' : d' < vals.length
      · rw [List.getElem?_append_left e] at hd
        rw [List.getElem?_append_left e'] at hd'
        exact h.apart d d' v v2 k hne hd hd' hk
      · have hdl := (List.getElem?_eq_some_iff.1 hd').1
        have e2 : d' = vals.length := by simp at hdl; omega
        subst e2
        rw [List.getElem?_append_right (Nat.le_refl _)] at hd'
        simp at hd'
        subst hd'
        simp [Value.ownBlock]
    · have hdl := (List.getElem?_eq_some_iff.1 hd).1
      have e2 : d = vals.length := by simp at hdl; omega
      subst e2
      rw [List.getElem?_append_right (Nat.le_refl _)] at hd
      simp at hd
      subst hd
      simp [Value.ownBlock] at hk

/-- 'levels[d] = append(levels[d], x)'. -/
theorem LevMem.push {w0 w w' : World} {bL cL : Nat} {v v' : Value} {vals : List Value} {lv : List (List Nat)} {d x : Nat} {l : List Nat} (h : LevMem w0 (.slice (some ⟨bL, 0, none⟩) vals.length cL) vals lv w) (hd : vals[d]? = some v) (hl : lv[d]? = some l) (hg : w.grownBy w' v.ownBlock) (ho : w'.ownsRow w0.heap.size 3 1 v' (l.length + 1) (l.map (fun x : Nat => Value.int .i64 (x : Int)) ++ [.int .i64 (x : Int)])) (hloc : v'.ownBlock = v.ownBlock ∨ ∃ k, v'.ownBlock = some k ∧ w.heap.size ≤ k) :
    LevMem w0 (.slice (some ⟨bL, 0, none⟩) vals.length cL) (vals.set d v') (lv.set d (l ++ [x])) (w'.setCell ⟨bL, d, none⟩ v') ∧ w'.cell? ⟨bL, d, none⟩ = some v ∧ w'.frozen? ⟨bL, d, none⟩ = false := by
  have h0 := h.inn d v l hd hl
  have ht : Turned v.ownBlock.toList w w' := Turned.of_grown hg _ (fun k hk => by rw [hk]; simp)
  have hfar : v.ownBlock ≠ some bL := fun e => own_apart h0 h.out (by decide) e rfl
  have ho1 : w'.ownsRow w0.heap.size 22 1 (.slice (some ⟨bL, 0, none⟩) vals.length cL) vals.length vals := own_turned h.out ht (fun k hk hm => own_apart h.out h0 (by decide) hk (Option.mem_toList.1 hm))
  have gs := grown_set w' bL d v'
  have hdl : d < vals.length := (List.getElem?_eq_some_iff.1 hd).1
  have hvb : v'.ownBlock ≠ some bL := fun e => own_apart ho ho1 (by decide) e rfl
  have hst := (ho1.stored d v').1
  refine ⟨⟨by rw [List.length_set]; exact hst, by rw [List.length_set, List.length_set]; exact h.len, fun j u l' hj hl' => ?_, fun j j' u u' k hne hj hj' hk => ?_, (h.below.grown hg h.below.size (fun k hk => (h0.lt k hk).1)).grown gs (Nat.le_trans h.below.size hg.size) (fun k hk => by cases hk; exact (h.out.lt bL rfl).1)⟩, (ho1.cellAt d (by omega)).trans hd, ho1.frozenAt d⟩
  · by_cases e : j = d
    · subst e
      rw [List.getElem?_set_self hdl] at hj
      rw [List.getElem?_set_self (by rw [h.len]; exact hdl)] at hl'
      cases hj
      cases hl'
      rw [List.length_append, List.map_append]
      exact ho.kept gs (.inr hvb)
    · rw [List.getElem?_set_ne (Ne.symm e)] at hj hl'
      have h1 := h.inn j u l' hj hl'
      have h2 := own_turned h1 ht (fun k hk hm => h.apart j d u v k e hj hd hk (Option.mem_toList.1 hm))
      exact h2.kept gs (.inr fun e2 => own_apart h1 h.out (by decide) e2 rfl)
  · have new : ∀ i y, i ≠ d → vals[i]? = some y → ∀ k, v'.ownBlock = some k → y.ownBlock ≠ some k := fun i y hi hy k hk hk' => by
      rcases hloc with e | ⟨q, e, hq⟩
      · exact h.apart d i v y k (Ne.symm hi) hd hy (by rw [← e]; exact hk) hk'
      · rw [e] at hk
        have e3 : q = k := by simpa using hk
        subst e3
        have hil : i < lv.length := by rw [h.len]; exact (List.getElem?_eq_some_iff.1 hy).1
        have := ((h.inn i y _ hy (List.getElem?_eq_getElem hil)).lt q hk').2
        omega
    by_cases e : j = d
    · subst e
      rw [List.getElem?_set_self hdl] at hj
      cases hj
      rw [List.getElem?_set_ne hne] at hj'
      exact new j' u' (Ne.symm hne) hj' k hk
    · rw [List.getElem?_set_ne (Ne.symm e)] at hj
      by_cases e' : j' = d
      · subst e'
        rw [List.getElem?_set_self hdl] at hj'
        cases hj'
        exact fun hk' => new j u e hj k hk' hk
      · rw [List.getElem?_set_ne (Ne.symm e')] at hj'
        exact h.apart j j' u u' k hne hj hj' hk

/-- The first k transactions are in their levels. -/
structure LevIs (ds : List Int) (k : Nat) (lv : List (List Nat)) : Prop where
  up : ∀ (d : Nat) (l : List Nat), lv[d]? = some l → l.Pairwise (· < ·)
  mem : ∀ (d : Nat) (l : List Nat), lv[d]? = some l → ∀ v : Nat, v ∈ l ↔ v < k ∧ dAt ds v = d
  all : ∀ v, v < k → dAt ds v < lv.length

theorem LevIs.more {ds : List Int} {k : Nat} {lv : List (List Nat)} (h : LevIs ds k lv) : LevIs ds k (lv ++ [[]]) := by
  have key : ∀ d l, (lv ++ [[]])[d]? = some l → lv[d]? = some l ∨ (d = lv.length ∧ l = []) := fun d l hd => by
    by_cases e : d < lv.length
    · rw [List.getElem?_append_left e] at hd; exact .inl hd
    · have hdl := (List.getElem?_eq_some_iff.1 hd).1
      have e2 : d = lv.length := by simp at hdl; omega
      subst e2
      rw [List.getElem?_append_right (Nat.le_refl _)] at hd
      simp at hd
      exact .inr ⟨rfl, hd⟩
  refine ⟨fun d l hd => ?_, fun d l hd v => ?_, fun v hv => by have := h.all v hv; simp; omega⟩
  · rcases key d l hd with h1 | ⟨_, rfl⟩
    · exact h.up d l h1
    · exact List.Pairwise.nil
  · rcases key d l hd with h1 | ⟨rfl, rfl⟩
    · exact h.mem d l h1 v
    · constructor
      · intro h2; cases h2
      · rintro ⟨h2, h3⟩
        have := h.all v h2
        omega

theorem LevIs.skip {ds : List Int} {k : Nat} {lv : List (List Nat)} (h : LevIs ds k lv) (hk : dAt ds k < 0) : LevIs ds (k + 1) lv := by
  refine ⟨h.up, fun d l hd v => ?_, fun v hv => ?_⟩
  · rw [h.mem d l hd v]
    constructor
    · rintro ⟨h1, h2⟩; exact ⟨by omega, h2⟩
    · rintro ⟨h1, h2⟩
      by_cases e : v = k
      · subst e; omega
      · exact ⟨by omega, h2⟩
  · by_cases e : v = k
    · subst e; omega
    · exact h.all v (by omega)

theorem LevIs.push {ds : List Int} {k d : Nat} {lv : List (List Nat)} {l : List Nat} (h : LevIs ds k lv) (hd : dAt ds k = d) (hl : lv[d]? = some l) : LevIs ds (k + 1) (lv.set d (l ++ [k])) := by
  have hdl : d < lv.length := (List.getElem?_eq_some_iff.1 hl).1
  have key : ∀ j l', (lv.set d (l ++ [k]))[j]? = some l' → (j = d ∧ l' = l ++ [k]) ∨ (j ≠ d ∧ lv[j]? = some l') := fun j l' hj => by
    by_cases e : j = d
    · subst e
      rw [List.getElem?_set_self hdl] at hj
      exact .inl ⟨rfl, by cases hj; rfl⟩
    · rw [List.getElem?_set_ne (Ne.symm e)] at hj
      exact .inr ⟨e, hj⟩
  refine ⟨fun j l' hj => ?_, fun j l' hj v => ?_, fun v hv => ?_⟩
  · rcases key j l' hj with ⟨rfl, rfl⟩ | ⟨_, h1⟩
    · rw [List.pairwise_append]
      refine ⟨h.up j l hl, by simp, fun a ha b hb => ?_⟩
      rw [List.mem_singleton] at hb
      subst hb
      exact ((h.mem j l hl a).1 ha).1
    · exact h.up j l' h1
  · rcases key j l' hj with ⟨rfl, rfl⟩ | ⟨e, h1⟩
    · rw [List.mem_append, List.mem_singleton, h.mem j l hl v]
      constructor
      · rintro (⟨h1, h2⟩ | rfl)
        · exact ⟨by omega, h2⟩
        · exact ⟨by omega, hd⟩
      · rintro ⟨h1, h2⟩
        by_cases e : v = k
        · exact .inr e
        · exact .inl ⟨by omega, h2⟩
    · rw [h.mem j l' h1 v]
      constructor
      · rintro ⟨h2, h3⟩; exact ⟨by omega, h3⟩
      · rintro ⟨h2, h3⟩
        by_cases e2 : v = k
        · subst e2; omega
        · exact ⟨by omega, h3⟩
  · rw [List.length_set]
    by_cases e : v = k
    · subst e; omega
    · exact h.all v (by omega)

end Go.Proofs.Qxb6612201a
