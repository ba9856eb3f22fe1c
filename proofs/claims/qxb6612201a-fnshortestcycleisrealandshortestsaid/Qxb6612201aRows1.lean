/-
  THE MEMORY OF shortestCycle's FIRST PART: cells that hold slices, each of which owns a row; no two of them one row.
-/
import Derived.Test.Qxb6612201aReachW
namespace Go.Proofs.Qxb6612201a
open Go.RowKit
set_option linter.unusedVariables false
set_option linter.unusedSimpArgs false

/-- A function of a cell's block and place, turned at one. -/
def upd {α : Type} (f : Nat → Nat → α) (b o : Nat) (x : α) : Nat → Nat → α := fun b' o' => if b' = b ∧ o' = o then x else f b' o'
theorem upd_same {α : Type} (f : Nat → Nat → α) (b o : Nat) (x : α) : upd f b o x b o = x := by simp [upd]
theorem upd_other {α : Type} (f : Nat → Nat → α) {b o b' o' : Nat} (x : α) (h : ¬ (b' = b ∧ o' = o)) : upd f b o x b' o' = f b' o' := by simp [upd, h]

/-- Each cell of 'dom' holds a slice that owns its row, of elements of the type ty and of sz cells. -/
structure Rows (base : Nat) (dom : Nat → Nat → Prop) (ty sz : Nat → Nat → Nat) (v : Nat → Nat → Value) (len : Nat → Nat → Nat) (val : Nat → Nat → List Value) (w : World) : Prop where
  cell : ∀ b o, dom b o → w.cell? ⟨b, o, none⟩ = some (v b o)
  free : ∀ b o, dom b o → w.frozen? ⟨b, o, none⟩ = false
  own : ∀ b o, dom b o → w.ownsRow base (ty b o) (sz b o) (v b o) (len b o) (val b o)
  apart : ∀ b o b' o', dom b o → dom b' o' → ¬ (b' = b ∧ o' = o) → ∀ k, (v b o).ownBlock = some k → (v b' o').ownBlock ≠ some k
  low : ∀ b o, dom b o → b < base
  top : base ≤ w.heap.size

variable {base : Nat} {dom : Nat → Nat → Prop} {ty sz : Nat → Nat → Nat} {v : Nat → Nat → Value} {len : Nat → Nat → Nat} {val : Nat → Nat → List Value} {w w' : World}

/-- Nothing of it has turned. -/
theorem Rows.turned (h : Rows base dom ty sz v len val w) {S : List Nat} (ht : Turned S w w') (hS : ∀ b o, dom b o → b ∉ S ∧ ∀ k, (v b o).ownBlock = some k → k ∉ S) : Rows base dom ty sz v len val w' where
  cell b o hd := by
    have hlt : b < w.heap.size := Nat.lt_of_lt_of_le (h.low b o hd) h.top
    exact (World.cell?_of_block (a := ⟨b, o, none⟩) (ht.block b hlt (hS b o hd).1)).trans (h.cell b o hd)
  free b o hd := by
    have hlt : b < w.heap.size := Nat.lt_of_lt_of_le (h.low b o hd) h.top
    exact (World.frozen?_of_block (a := ⟨b, o, none⟩) (ht.block b hlt (hS b o hd).1)).trans (h.free b o hd)
  own b o hd := by
    have h0 := h.own b o hd
    refine ⟨h0.1, ?_⟩
    rcases h0.2 with h1 | ⟨g, cap, cur, hv, hb, hg, hr⟩
    · exact .inl h1
    · exact .inr ⟨g, cap, cur, hv, hb, ht.keep hg ((hS b o hd).2 g (by rw [hv]; rfl)), hr⟩
  apart := h.apart
  low := h.low
  top := Nat.le_trans h.top ht.size

theorem Rows.kept (h : Rows base dom ty sz v len val w) (ht : Turned [] w w') : Rows base dom ty sz v len val w' := h.turned ht (fun b o hd => ⟨by simp, fun k _ => by simp⟩)

/-- 's[o] = append(s[o], ..)': the append's world w', the value v'. -/
theorem Rows.push (h : Rows base dom ty sz v len val w) {b o m : Nat} {xs : List Value} {v' : Value} (hd : dom b o) (hg : w.grownBy w' (v b o).ownBlock) (ho : w'.ownsRow base (ty b o) (sz b o) v' (len b o + m) (val b o ++ xs)) (hl : v'.ownBlock = (v b o).ownBlock ∨ ∃ k, v'.ownBlock = some k ∧ w.heap.size ≤ k) :
    Rows base dom ty sz (upd v b o v') (upd len b o (len b o + m)) (upd val b o (val b o ++ xs)) (w'.setCell ⟨b, o, none⟩ v') ∧ Turned (b :: (v b o).ownBlock.toList) w (w'.setCell ⟨b, o, none⟩ v') ∧ w'.cell? ⟨b, o, none⟩ = some (v b o) ∧ w'.frozen? ⟨b, o, none⟩ = false := by
  have hb := h.low b o hd
  have far : ∀ b' o', dom b' o' → some b' ≠ (v b o).ownBlock := fun b' o' hd' e => by
    have h1 := ((h.own b o hd).lt b' e.symm).1
    have h2 := h.low b' o' hd'
    omega
  have c1 : ∀ b' o', dom b' o' → w'.cell? ⟨b', o', none⟩ = some (v b' o') ∧ w'.frozen? ⟨b', o', none⟩ = false := fun b' o' hd' => by
    have hlt : b' < w.heap.size := Nat.lt_of_lt_of_le (h.low b' o' hd') h.top
    have hbl := hg.block b' hlt (far b' o' hd')
    exact ⟨(World.cell?_of_block (a := ⟨b', o', none⟩) hbl).trans (h.cell b' o' hd'), (World.frozen?_of_block (a := ⟨b', o', none⟩) hbl).trans (h.free b' o' hd')⟩
  have ht : Turned (b :: (v b o).ownBlock.toList) w (w'.setCell ⟨b, o, none⟩ v') := Turned.trans (S := b :: (v b o).ownBlock.toList) (Turned.of_grown hg _ (fun k hk => by rw [hk]; simp)) (Turned.of_grown (grown_set w' b o v') [b] (fun k hk => by cases hk; simp)) (by simp)
  refine ⟨⟨fun b' o' hd' => ?_, fun b' o' hd' => ?_, fun b' o' hd' => ?_, fun b1 o1 b2 o2 d1 d2 hne k hk => ?_, h.low, Nat.le_trans h.top ht.size⟩, ht, (c1 b o hd).1, (c1 b o hd).2⟩
  · by_cases e : b' = b ∧ o' = o
    · obtain ⟨rfl, rfl⟩ := e
      rw [upd_same]
      exact World.cell?_setCell_same w' _ _ (c1 b' o' hd').1
    · rw [upd_other _ _ e, World.cell?_setCell_other w' _ _ _ (fun e' => e (by cases e'; exact ⟨rfl, rfl⟩))]
      exact (c1 b' o' hd').1
  · rw [World.frozen?_setCell]
    exact (c1 b' o' hd').2
  · by_cases e : b' = b ∧ o' = o
    · obtain ⟨rfl, rfl⟩ := e
      rw [upd_same, upd_same, upd_same]
      exact ho.kept (grown_set w' b' o' v') (.inr fun e => by
        have := (ho.lt b' e).1
        omega)
    · rw [upd_other _ _ e, upd_other _ _ e, upd_other _ _ e]
      have h1 := h.own b' o' hd'
      have hne : ∀ k, (v b' o').ownBlock = some k → (v b o).ownBlock ≠ some k := h.apart b' o' b o hd' hd (fun e' => e ⟨e'.1.symm, e'.2.symm⟩)
      refine ⟨h1.1, ?_⟩
      rcases h1.2 with h2 | ⟨g, cap, cur, hv, hbb, hgg, hr⟩
      · exact .inl h2
      · refine .inr ⟨g, cap, cur, hv, hbb, ht.keep hgg ?_, hr⟩
        have h3 := hne g (by rw [hv]; rfl)
        simp only [List.mem_cons, not_or, Option.mem_toList]
        exact ⟨by omega, h3⟩
  · have hold : ∀ b' o', dom b' o' → ¬ (b' = b ∧ o' = o) → ∀ k, v'.ownBlock = some k → (v b' o').ownBlock ≠ some k := fun b' o' hd' hne' k hk hk' => by
      rcases hl with e | ⟨j, e, hj⟩
      · rw [e] at hk
        exact h.apart b o b' o' hd hd' hne' k hk hk'
      · rw [e] at hk
        have e2 : j = k := by simpa using hk
        subst e2
        have := ((h.own b' o' hd').lt j hk').2
        omega
    by_cases e1 : b1 = b ∧ o1 = o
    · obtain ⟨rfl, rfl⟩ := e1
      rw [upd_same] at hk
      rw [upd_other _ _ hne]
      exact hold b2 o2 d2 hne k hk
    · rw [upd_other _ _ e1] at hk
      by_cases e2 : b2 = b ∧ o2 = o
      · obtain ⟨rfl, rfl⟩ := e2
        rw [upd_same]
        exact fun hk' => hold b1 o1 d1 e1 k hk' hk
      · rw [upd_other _ _ e2]
        exact h.apart b1 o1 b2 o2 d1 d2 hne k hk

/-- A cell of a row set anew. -/
theorem Rows.setIn (h : Rows base dom ty sz v len val w) {b o j g : Nat} {x : Value} (hd : dom b o) (hg : (v b o).ownBlock = some g) :
    Rows base dom ty sz v len (upd val b o ((val b o).set j x)) (w.setCell ⟨g, j, none⟩ x) ∧ Turned [g] w (w.setCell ⟨g, j, none⟩ x) := by
  have ht : Turned [g] w (w.setCell ⟨g, j, none⟩ x) := Turned.of_grown (grown_set w g j x) _ (fun k hk => by cases hk; simp)
  have hlt := (h.own b o hd).lt g hg
  refine ⟨⟨fun b' o' hd' => ?_, fun b' o' hd' => ?_, fun b' o' hd' => ?_, h.apart, h.low, Nat.le_trans h.top ht.size⟩, ht⟩
  · rw [World.cell?_setCell_other w _ _ _ (fun e' => by
      have := h.low b' o' hd'
      have e2 := congrArg Addr.block e'
      simp at e2
      omega)]
    exact h.cell b' o' hd'
  · rw [World.frozen?_setCell]
    exact h.free b' o' hd'
  · by_cases e : b' = b ∧ o' = o
    · obtain ⟨rfl, rfl⟩ := e
      rw [upd_same]
      have h1 := h.own b' o' hd'
      have hv : ∃ n cap, v b' o' = .slice (some ⟨g, 0, none⟩) n cap ∧ n = len b' o' := by
        rcases h1.2 with ⟨h2, _⟩ | ⟨g', cap, cur, hv, _⟩
        · rw [h2] at hg; cases hg
        · rw [hv] at hg
          simp [Value.ownBlock] at hg
          subst hg
          exact ⟨_, _, hv, rfl⟩
      obtain ⟨n, cap, hv, rfl⟩ := hv
      rw [hv] at h1 ⊢
      exact (h1.stored j x).1
    · rw [upd_other _ _ e]
      have h1 := h.own b' o' hd'
      refine ⟨h1.1, ?_⟩
      rcases h1.2 with h2 | ⟨g', cap, cur, hv, hbb, hgg, hr⟩
      · exact .inl h2
      · refine .inr ⟨g', cap, cur, hv, hbb, ht.keep hgg ?_, hr⟩
        have h3 := h.apart b' o' b o hd' hd (fun e' => e ⟨e'.1.symm, e'.2.symm⟩) g' (by rw [hv]; rfl)
        rw [hg] at h3
        simp only [List.mem_singleton]
        exact fun e => h3 (by rw [e])

end Go.Proofs.Qxb6612201a
