/-
  PLAIN: THE LISTS, OPERATION BY OPERATION.
-/
import Derived.Test.Qxb6612201aTold
namespace Go.Proofs.Qxb6612201a
set_option linter.unusedVariables false
set_option linter.unusedSectionVars false

def updN {α : Type} (f : Nat → α) (t : Nat) (v : α) : Nat → α := fun t' => if t' = t then v else f t'
theorem updN_same {α : Type} (f : Nat → α) (t : Nat) (v : α) : updN f t v t = v := by simp [updN]
theorem updN_other {α : Type} (f : Nat → α) {t t' : Nat} (v : α) (h : t' ≠ t) : updN f t v t' = f t' := by simp [updN, h]

theorem Told.start (h : Hist) (H : Nat) : Told h H 0 ⟨fun _ => [], fun _ => [], fun _ => [], fun _ => []⟩ where
  wrM t e he := by cases he
  wrA k hk := by omega
  wrD t := List.Pairwise.nil
  rdM t r := ⟨(fun h => by cases h), fun ⟨i, _, hi, _⟩ => by omega⟩
  wsM x y := ⟨(fun h => by cases h), fun ⟨i, _, hi, _⟩ => by omega⟩
  wsS x := List.Pairwise.nil
  rsM q y := ⟨(fun h => by cases h), fun ⟨i, _, hi, _⟩ => by omega⟩
  rsS q := List.Pairwise.nil
  wrL t := Nat.le_refl _
  rdL t := Nat.le_refl _
  wsL x := Nat.le_refl _
  rsL q := Nat.le_refl _

/-- The operation takes no part. -/
theorem Told.skip {h : Hist} {H p : Nat} {L : Lists} (T : Told h H p L) (hw : ¬ h.WrAt p) (hr : ¬ h.RdAt p) : Told h H (p + 1) L where
  wrM t e he := by
    obtain ⟨i, j, e1, e2, hi, hj, wi, wj, ti, tj, li, lj, hb⟩ := T.wrM t e he
    refine ⟨i, j, e1, e2, by omega, by omega, wi, wj, ti, tj, li, lj, fun k hk wk tk lk => ?_⟩
    by_cases e : k = p
    · subst e; exact absurd wk hw
    · exact hb k (by omega) wk tk lk
  wrA k hk wk := by
    by_cases e : k = p
    · subst e; exact absurd wk hw
    · exact T.wrA k (by omega) wk
  wrD := T.wrD
  rdM t r := by
    rw [T.rdM t r]
    constructor
    · rintro ⟨i, h1, h2, h3⟩; exact ⟨i, h1, by omega, h3⟩
    · rintro ⟨i, h1, h2, h3, h4⟩
      by_cases e : i = p
      · subst e; exact absurd h3 hr
      · exact ⟨i, h1, by omega, h3, h4⟩
  wsM x y := by
    rw [T.wsM x y]
    constructor
    · rintro ⟨i, h1, h2, h3⟩; exact ⟨i, h1, by omega, h3⟩
    · rintro ⟨i, h1, h2, h3, h4⟩
      by_cases e : i = p
      · subst e; exact absurd h3 hw
      · exact ⟨i, h1, by omega, h3, h4⟩
  wsS := T.wsS
  rsM q y := by
    rw [T.rsM q y]
    constructor
    · rintro ⟨i, h1, h2, h3⟩; exact ⟨i, h1, by omega, h3⟩
    · rintro ⟨i, h1, h2, h3, h4⟩
      by_cases e : i = p
      · subst e; exact absurd h3 hr
      · exact ⟨i, h1, by omega, h3, h4⟩
  rsS := T.rsS
  wrL t := by have := T.wrL t; omega
  rdL t := by have := T.rdL t; omega
  wsL x := by have := T.wsL x; omega
  rsL q := by have := T.rsL q; omega

/-- A read: kept with its transaction, and at the nodes ps of its range. -/
def Lists.reads (L : Lists) (t : Nat) (r : Int × Int × Int) (y : Int × Int) (ps : List Nat) : Lists :=
  { L with rd := updN L.rd t (L.rd t ++ [r]), rs := fun q => L.rs q ++ List.replicate (ps.count q) y }

theorem pos_lt {h : Hist} {H p : Nat} {L : Lists} (T : Told h H p L) {q : Nat} {y : Int × Int} (hy : y ∈ L.rs q) : y.1 < p := by
  obtain ⟨i, rfl, hi, _⟩ := (T.rsM q y).1 hy
  show (i : Int) < p
  omega
theorem pos_lt' {h : Hist} {H p : Nat} {L : Lists} (T : Told h H p L) {x : Nat} {y : Int × Int} (hy : y ∈ L.ws x) : y.1 < p := by
  obtain ⟨i, rfl, hi, _⟩ := (T.wsM x y).1 hy
  show (i : Int) < p
  omega

theorem Told.read {h : Hist} {H p t : Nat} {L : Lists} (T : Told h H p L) (hr : h.RdAt p) (ht : iAt h.ts p = t) (hc : (cover H (iAt h.los p).toNat (iAt h.his p).toNat).length ≤ 100) :
    Told h H (p + 1) (L.reads t (iAt h.los p, iAt h.his p, (p : Int)) ((p : Int), iAt h.ts p) (cover H (iAt h.los p).toNat (iAt h.his p).toNat)) := by
  have hw : ¬ h.WrAt p := fun hw => by have h1 := hw.1; have h2 := hr.1; omega
  exact
  { wrM := fun t' e he => by
      obtain ⟨i, j, e1, e2, hi, hj, wi, wj, ti, tj, li, lj, hb⟩ := T.wrM t' e he
      refine ⟨i, j, e1, e2, by omega, by omega, wi, wj, ti, tj, li, lj, fun k hk wk tk lk => ?_⟩
      by_cases e : k = p
      · subst e; exact absurd wk hw
      · exact hb k (by omega) wk tk lk
    wrA := fun k hk wk => by
      by_cases e : k = p
      · subst e; exact absurd wk hw
      · exact T.wrA k (by omega) wk
    wrD := T.wrD
    rdM := fun t' r => by
      have base : r ∈ L.rd t' ↔ _ := T.rdM t' r
      show r ∈ updN L.rd t (L.rd t ++ [(iAt h.los p, iAt h.his p, (p : Int))]) t' ↔ _
      by_cases e : t' = t
      · subst e
        rw [updN_same, List.mem_append, List.mem_singleton, base]
        constructor
        · rintro (⟨i, h1, h2, h3⟩ | rfl)
          · exact ⟨i, h1, by omega, h3⟩
          · exact ⟨p, rfl, by omega, hr, ht⟩
        · rintro ⟨i, h1, h2, h3, h4⟩
          by_cases e : i = p
          · subst e; exact .inr h1
          · exact .inl ⟨i, h1, by omega, h3, h4⟩
      · rw [updN_other _ _ e, base]
        constructor
        · rintro ⟨i, h1, h2, h3⟩; exact ⟨i, h1, by omega, h3⟩
        · rintro ⟨i, h1, h2, h3, h4⟩
          by_cases e' : i = p
          · subst e'; omega
          · exact ⟨i, h1, by omega, h3, h4⟩
    wsM := fun x y => by
      show y ∈ L.ws x ↔ _
      rw [T.wsM x y]
      constructor
      · rintro ⟨i, h1, h2, h3⟩; exact ⟨i, h1, by omega, h3⟩
      · rintro ⟨i, h1, h2, h3, h4⟩
        by_cases e : i = p
        · subst e; exact absurd h3 hw
        · exact ⟨i, h1, by omega, h3, h4⟩
    wsS := T.wsS
    rsM := fun q y => by
      show y ∈ L.rs q ++ List.replicate _ _ ↔ _
      rw [List.mem_append, T.rsM q y, List.mem_replicate]
      constructor
      · rintro (⟨i, h1, h2, h3⟩ | ⟨h1, rfl⟩)
        · exact ⟨i, h1, by omega, h3⟩
        · exact ⟨p, rfl, by omega, hr, List.count_pos_iff.1 (by omega)⟩
      · rintro ⟨i, h1, h2, h3, h4⟩
        by_cases e : i = p
        · subst e; exact .inr ⟨by have := List.count_pos_iff.2 h4; omega, h1⟩
        · exact .inl ⟨i, h1, by omega, h3, h4⟩
    rsS := fun q => by
      show (L.rs q ++ List.replicate _ _).Pairwise _
      rw [List.pairwise_append]
      refine ⟨T.rsS q, ?_, fun a ha b hb => ?_⟩
      · rw [List.pairwise_replicate]
        exact .inr (Int.le_refl _)
      · rw [List.mem_replicate] at hb
        rw [hb.2]
        have := pos_lt T ha
        show a.1 ≤ (p : Int)
        omega
    wrL := fun t' => by have := T.wrL t'; show (L.wr t').length ≤ _; omega
    rdL := fun t' => by
      show (updN L.rd t (L.rd t ++ [_]) t').length ≤ _
      by_cases e : t' = t
      · subst e; rw [updN_same]; have := T.rdL t'; simp; omega
      · rw [updN_other _ _ e]; have := T.rdL t'; omega
    wsL := fun x => by have := T.wsL x; show (L.ws x).length ≤ _; omega
    rsL := fun q => by
      show (L.rs q ++ List.replicate _ _).length ≤ _
      have h1 := T.rsL q
      have h2 : (cover H (iAt h.los p).toNat (iAt h.his p).toNat).count q ≤ _ := List.count_le_length
      simp
      omega }

/-- A write of an item that its transaction has not written. -/
def Lists.writeNew (L : Lists) (t x : Nat) (e : Int × Int × Int) (y : Int × Int) : Lists := { L with wr := updN L.wr t (L.wr t ++ [e]), ws := updN L.ws x (L.ws x ++ [y]) }
/-- A write of an item that it has: its last write is this. -/
def Lists.writeOld (L : Lists) (t x k : Nat) (e : Int × Int × Int) (y : Int × Int) : Lists := { L with wr := updN L.wr t ((L.wr t).set k e), ws := updN L.ws x (L.ws x ++ [y]) }

section
variable {h : Hist} {H p t x : Nat} {L : Lists}

theorem ws_step (T : Told h H p L) (hw : h.WrAt p) (ht : iAt h.ts p = t) (hx : iAt h.los p = x) (x' : Nat) (y : Int × Int) : y ∈ updN L.ws x (L.ws x ++ [((p : Int), iAt h.ts p)]) x' ↔ ∃ i : Nat, y = ((i : Int), iAt h.ts i) ∧ i < p + 1 ∧ h.WrAt i ∧ iAt h.los i = x' := by
  by_cases e : x' = x
  · subst e
    rw [updN_same, List.mem_append, List.mem_singleton, T.wsM x' y]
    constructor
    · rintro (⟨i, h1, h2, h3⟩ | rfl)
      · exact ⟨i, h1, by omega, h3⟩
      · exact ⟨p, rfl, by omega, hw, hx⟩
    · rintro ⟨i, h1, h2, h3, h4⟩
      by_cases e : i = p
      · subst e; exact .inr h1
      · exact .inl ⟨i, h1, by omega, h3, h4⟩
  · rw [updN_other _ _ e, T.wsM x' y]
    constructor
    · rintro ⟨i, h1, h2, h3⟩; exact ⟨i, h1, by omega, h3⟩
    · rintro ⟨i, h1, h2, h3, h4⟩
      by_cases e' : i = p
      · subst e'; omega
      · exact ⟨i, h1, by omega, h3, h4⟩

theorem ws_sorted (T : Told h H p L) (hw : h.WrAt p) (ht : iAt h.ts p = t) (hx : iAt h.los p = x) (x' : Nat) : (updN L.ws x (L.ws x ++ [((p : Int), iAt h.ts p)]) x').Pairwise (fun a b => a.1 ≤ b.1) := by
  by_cases e : x' = x
  · subst e
    rw [updN_same, List.pairwise_append]
    refine ⟨T.wsS x', by simp, fun a ha b hb => ?_⟩
    rw [List.mem_singleton] at hb
    rw [hb]
    have := pos_lt' T ha
    show a.1 ≤ (p : Int)
    omega
  · rw [updN_other _ _ e]; exact T.wsS x'

theorem ws_len (T : Told h H p L) (hw : h.WrAt p) (ht : iAt h.ts p = t) (hx : iAt h.los p = x) (x' : Nat) : (updN L.ws x (L.ws x ++ [((p : Int), iAt h.ts p)]) x').length ≤ p + 1 := by
  by_cases e : x' = x
  · subst e; rw [updN_same]; have := T.wsL x'; simp; omega
  · rw [updN_other _ _ e]; have := T.wsL x'; omega

theorem rd_step (T : Told h H p L) (hw : h.WrAt p) (ht : iAt h.ts p = t) (hx : iAt h.los p = x) (t' : Nat) (r : Int × Int × Int) : r ∈ L.rd t' ↔ ∃ i : Nat, r = (iAt h.los i, iAt h.his i, (i : Int)) ∧ i < p + 1 ∧ h.RdAt i ∧ iAt h.ts i = t' := by
  have hr : ¬ h.RdAt p := fun hr => by have h1 := hw.1; have h2 := hr.1; omega
  rw [T.rdM t' r]
  constructor
  · rintro ⟨i, h1, h2, h3⟩; exact ⟨i, h1, by omega, h3⟩
  · rintro ⟨i, h1, h2, h3, h4⟩
    by_cases e : i = p
    · subst e; exact absurd h3 hr
    · exact ⟨i, h1, by omega, h3, h4⟩

theorem rs_step (T : Told h H p L) (hw : h.WrAt p) (ht : iAt h.ts p = t) (hx : iAt h.los p = x) (q : Nat) (y : Int × Int) : y ∈ L.rs q ↔ ∃ i : Nat, y = ((i : Int), iAt h.ts i) ∧ i < p + 1 ∧ h.RdAt i ∧ q ∈ cover H (iAt h.los i).toNat (iAt h.his i).toNat := by
  have hr : ¬ h.RdAt p := fun hr => by have h1 := hw.1; have h2 := hr.1; omega
  rw [T.rsM q y]
  constructor
  · rintro ⟨i, h1, h2, h3⟩; exact ⟨i, h1, by omega, h3⟩
  · rintro ⟨i, h1, h2, h3, h4⟩
    by_cases e : i = p
    · subst e; exact absurd h3 hr
    · exact ⟨i, h1, by omega, h3, h4⟩

/-- A first write. -/
theorem Told.writeNew (T : Told h H p L) (hw : h.WrAt p) (ht : iAt h.ts p = t) (hx : iAt h.los p = x) (hno : ∀ e ∈ L.wr t, e.1 ≠ x) : Told h H (p + 1) (L.writeNew t x ((x : Int), (p : Int), (p : Int)) ((p : Int), iAt h.ts p)) where
  wrM t' e he := by
    change e ∈ updN L.wr t (L.wr t ++ [((x : Int), (p : Int), (p : Int))]) t' at he
    have old : e ∈ L.wr t' → (t' = t → e.1 ≠ x) → ∃ i j : Nat, e.2.1 = i ∧ e.2.2 = j ∧ i < p + 1 ∧ j < p + 1 ∧ h.WrAt i ∧ h.WrAt j ∧ iAt h.ts i = t' ∧ iAt h.ts j = t' ∧ iAt h.los i = e.1 ∧ iAt h.los j = e.1 ∧ ∀ k, k < p + 1 → h.WrAt k → iAt h.ts k = t' → iAt h.los k = e.1 → i ≤ k ∧ k ≤ j := fun he hne => by
      obtain ⟨i, j, e1, e2, hi, hj, wi, wj, ti, tj, li, lj, hb⟩ := T.wrM t' e he
      refine ⟨i, j, e1, e2, by omega, by omega, wi, wj, ti, tj, li, lj, fun k hk wk tk lk => ?_⟩
      by_cases ek : k = p
      · subst ek
        exact absurd (by omega) (hne (by omega))
      · exact hb k (by omega) wk tk lk
    by_cases e' : t' = t
    · subst e'
      rw [updN_same, List.mem_append, List.mem_singleton] at he
      rcases he with he | rfl
      · exact old he (fun _ => hno e he)
      · refine ⟨p, p, rfl, rfl, by omega, by omega, hw, hw, ht, ht, hx, hx, fun k hk wk tk lk => ?_⟩
        by_cases ek : k = p
        · omega
        · exfalso
          obtain ⟨e, he, hex⟩ := T.wrA k (by omega) wk
          rw [tk, Int.toNat_natCast] at he
          simp at lk
          exact hno e he (by omega)
    · rw [updN_other _ _ e'] at he
      exact old he (fun h1 => absurd h1 e')
  wrA k hk wk := by
    show ∃ e ∈ updN L.wr t _ _, _
    by_cases ek : k = p
    · subst ek
      refine ⟨((x : Int), (k : Int), (k : Int)), ?_, by simp [hx]⟩
      rw [show (iAt h.ts k).toNat = t by omega, updN_same]
      simp
    · obtain ⟨e, he, hex⟩ := T.wrA k (by omega) wk
      refine ⟨e, ?_, hex⟩
      by_cases e' : (iAt h.ts k).toNat = t
      · rw [e', updN_same]
        rw [e'] at he
        exact List.mem_append_left _ he
      · rw [updN_other _ _ e']
        exact he
  wrD t' := by
    show (updN L.wr t _ t').Pairwise _
    by_cases e' : t' = t
    · subst e'
      rw [updN_same, List.pairwise_append]
      refine ⟨T.wrD t', by simp, fun a ha b hb => ?_⟩
      rw [List.mem_singleton] at hb
      rw [hb]
      exact hno a ha
    · rw [updN_other _ _ e']; exact T.wrD t'
  rdM := rd_step (L := L) T hw ht hx
  wsM := ws_step (L := L) T hw ht hx
  wsS := ws_sorted (L := L) T hw ht hx
  rsM := rs_step (L := L) T hw ht hx
  rsS := T.rsS
  wrL t' := by
    show (updN L.wr t _ t').length ≤ _
    by_cases e : t' = t
    · subst e; rw [updN_same]; have := T.wrL t'; simp; omega
    · rw [updN_other _ _ e]; have := T.wrL t'; omega
  rdL t' := by have := T.rdL t'; show (L.rd t').length ≤ _; omega
  wsL := ws_len (L := L) T hw ht hx
  rsL q := by have := T.rsL q; show (L.rs q).length ≤ _; omega

/-- A later write. -/
theorem Told.writeOld (T : Told h H p L) (hw : h.WrAt p) (ht : iAt h.ts p = t) (hx : iAt h.los p = x) {k : Nat} {e0 : Int × Int × Int} (hk : (L.wr t)[k]? = some e0) (he0 : e0.1 = x) : Told h H (p + 1) (L.writeOld t x k (e0.1, e0.2.1, (p : Int)) ((p : Int), iAt h.ts p)) := by
  have hkl := (List.getElem?_eq_some_iff.1 hk).1
  have uniq : ∀ (j : Nat) (e : Int × Int × Int), (L.wr t)[j]? = some e → e.1 = x → j = k := fun j e hj hex => by
    have hjl := (List.getElem?_eq_some_iff.1 hj).1
    rcases Nat.lt_trichotomy j k with h1 | h1 | h1
    · have := (List.pairwise_iff_getElem.1 (T.wrD t)) j k hjl hkl h1
      rw [(List.getElem?_eq_some_iff.1 hj).2, (List.getElem?_eq_some_iff.1 hk).2] at this
      omega
    · exact h1
    · have := (List.pairwise_iff_getElem.1 (T.wrD t)) k j hkl hjl h1
      rw [(List.getElem?_eq_some_iff.1 hj).2, (List.getElem?_eq_some_iff.1 hk).2] at this
      omega
  exact
  { wrM := fun t' e he => by
      change e ∈ updN L.wr t ((L.wr t).set k (e0.1, e0.2.1, (p : Int))) t' at he
      have old : e ∈ L.wr t' → (t' = t → e.1 ≠ x) → ∃ i j : Nat, e.2.1 = i ∧ e.2.2 = j ∧ i < p + 1 ∧ j < p + 1 ∧ h.WrAt i ∧ h.WrAt j ∧ iAt h.ts i = t' ∧ iAt h.ts j = t' ∧ iAt h.los i = e.1 ∧ iAt h.los j = e.1 ∧ ∀ k, k < p + 1 → h.WrAt k → iAt h.ts k = t' → iAt h.los k = e.1 → i ≤ k ∧ k ≤ j := fun he hne => by
        obtain ⟨i, j, e1, e2, hi, hj, wi, wj, ti, tj, li, lj, hb⟩ := T.wrM t' e he
        refine ⟨i, j, e1, e2, by omega, by omega, wi, wj, ti, tj, li, lj, fun k hk wk tk lk => ?_⟩
        by_cases ek : k = p
        · subst ek
          exact absurd (by omega) (hne (by omega))
        · exact hb k (by omega) wk tk lk
      by_cases e' : t' = t
      · subst e'
        rw [updN_same] at he
        obtain ⟨j, hj⟩ := List.mem_iff_getElem?.1 he
        by_cases ejk : j = k
        · subst ejk
          rw [List.getElem?_set_self hkl] at hj
          cases hj
          obtain ⟨i, j', e1, e2, hi, hj', wi, wj, ti, tj, li, lj, hb⟩ := T.wrM t' e0 (List.mem_of_getElem? hk)
          refine ⟨i, p, e1, rfl, by omega, by omega, wi, hw, ti, ht, li, by show iAt h.los p = e0.1; omega, fun k2 hk2 wk tk lk => ?_⟩
          by_cases ek : k2 = p
          · omega
          · have := hb k2 (by omega) wk tk lk
            omega
        · rw [List.getElem?_set_ne (Ne.symm ejk)] at hj
          exact old (List.mem_of_getElem? hj) (fun _ hex => ejk (uniq j e hj hex))
      · rw [updN_other _ _ e'] at he
        exact old he (fun h1 => absurd h1 e')
    wrA := fun k2 hk2 wk => by
      show ∃ e ∈ updN L.wr t _ _, _
      have put : ∃ e ∈ (L.wr t).set k (e0.1, e0.2.1, (p : Int)), e.1 = x := ⟨_, List.mem_iff_getElem?.2 ⟨k, List.getElem?_set_self hkl⟩, he0⟩
      by_cases ek : k2 = p
      · subst ek
        rw [show (iAt h.ts k2).toNat = t by omega, updN_same, hx]
        exact put
      · obtain ⟨e, he, hex⟩ := T.wrA k2 (by omega) wk
        by_cases e' : (iAt h.ts k2).toNat = t
        · rw [e', updN_same]
          rw [e'] at he
          obtain ⟨j, hj⟩ := List.mem_iff_getElem?.1 he
          by_cases ejk : j = k
          · subst ejk
            rw [hk] at hj
            cases hj
            obtain ⟨e2, h2, h3⟩ := put
            exact ⟨e2, h2, by omega⟩
          · exact ⟨e, List.mem_iff_getElem?.2 ⟨j, by rw [List.getElem?_set_ne (Ne.symm ejk)]; exact hj⟩, hex⟩
        · refine ⟨e, ?_, hex⟩
          rw [updN_other _ _ e']
          exact he
    wrD := fun t' => by
      show (updN L.wr t _ t').Pairwise _
      by_cases e' : t' = t
      · subst e'
        rw [updN_same, List.pairwise_iff_getElem]
        intro i j hi hj hij
        have key : ∀ (a : Nat) (ha : a < ((L.wr t').set k (e0.1, e0.2.1, (p : Int))).length), (((L.wr t').set k (e0.1, e0.2.1, (p : Int)))[a]).1 = ((L.wr t')[a]'(by simpa using ha)).1 := fun a ha => by
          rw [List.getElem_set]
          split
          · rename_i hka
            subst hka
            have := (List.getElem?_eq_some_iff.1 hk).2
            rw [this]
          · rfl
        rw [key i hi, key j hj]
        exact (List.pairwise_iff_getElem.1 (T.wrD t')) i j _ _ hij
      · rw [updN_other _ _ e']; exact T.wrD t'
    rdM := rd_step (L := L) T hw ht hx
    wsM := ws_step (L := L) T hw ht hx
    wsS := ws_sorted (L := L) T hw ht hx
    rsM := rs_step (L := L) T hw ht hx
    rsS := T.rsS
    wrL := fun t' => by
      show (updN L.wr t _ t').length ≤ _
      by_cases e : t' = t
      · subst e; rw [updN_same]; have := T.wrL t'; simp; omega
      · rw [updN_other _ _ e]; have := T.wrL t'; omega
    rdL := fun t' => by have := T.rdL t'; show (L.rd t').length ≤ _; omega
    wsL := ws_len (L := L) T hw ht hx
    rsL := fun q => by have := T.rsL q; show (L.rs q).length ≤ _; omega }
end

end Go.Proofs.Qxb6612201a
