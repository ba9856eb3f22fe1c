/-
  A REGION THAT DRAWS ITS ORDER AND ENDS IN A STORE INTO A CELL THAT IT READS ('e.f = append(e.f, ..)'): the kit's law of the held region (Derived/OrdersHeld.lean) with two conditions on the world: S1 holds behind every operation; S0 holds till operation 'st' (the store) has come up.
-/
import Derived.Deep.RegionHeld3
namespace Go.Proofs.Qxb6612201a
open Go

section
variable {P : Program} {ops : Array Oper} {Q : Exit → Act → World → Prop} {md : Region.Mode} {st : Nat} {S1 S0 : World → Prop}

/-- Whatever order is picked from here on, S1 holds behind every operation, S0 till 'st' has come up. -/
def wpAnyD (P : Program) (md : Region.Mode) (ops : Array Oper) (Q : Exit → Act → World → Prop) (st : Nat) (S1 S0 : World → Prop) : Nat → Array Bool → Act → World → Prop
  | 0, listed, a, w => Region.ready md ops listed = [] ∧ Q .normal a w
  | fuel + 1, listed, a, w =>
    (Region.ready md ops listed = [] → Q .normal a w) ∧
    ∀ i ∈ Region.ready md ops listed, wpOp P ops Q i (fun a' w' => (S1 w' ∧ ((listed.setIfInBounds i true).getD st true = false → S0 w')) ∧ wpAnyD P md ops Q st S1 S0 fuel (listed.setIfInBounds i true) a' w') a w

theorem wpAny_of_D : ∀ (fuel : Nat) (listed : Array Bool) (a : Act) (w : World), wpAnyD P md ops Q st S1 S0 fuel listed a w → wpAny P md ops Q fuel listed a w
  | 0, _, _, _, h => h
  | fuel + 1, _, _, _, h => ⟨h.1, fun i hi => wpOp_mono (fun a' w' h' => wpAny_of_D fuel _ a' w' h'.2) (h.2 i hi)⟩

/-- Take number 'i' first: it yields its value in every world that meets S1 and S0; 'st' waits for it. -/
theorem wpAnyD_first {i : Nat} {oi : Oper} {v : Value} (hi : ops[i]? = some oi) (hsel : ∀ (j : Nat) (o : Oper) cs b, ops[j]? = some o → o.op ≠ .select cs b)
    (hQ : ∀ c a w, Q (.panic c) (a.put oi.dst v) w → Q (.panic c) a w) (hne : i ≠ st)
    (hst : ∀ os, ops[st]? = some os → ∃ e ∈ os.after, Region.binds md e = true ∧ e.on = i) :
    ∀ (fuel : Nat) (listed : Array Bool) (a : Act) (w : World), listed.getD st true = false →
      (∀ j oj, ops[j]? = some oj → j ≠ i → listed.getD j true = false → (∀ e ∈ oj.after, Region.binds md e = true → e.on ≠ i) → oi.apart ops oj = true) →
      i ∈ Region.ready md ops listed → YieldsIf P ops (fun w => S1 w ∧ S0 w) oi v a → S1 w → S0 w →
      wpAnyD P md ops Q st S1 S0 fuel (listed.setIfInBounds i true) (a.put oi.dst v) w → wpAnyD P md ops Q st S1 S0 (fuel + 1) listed a w := by
  intro fuel
  induction fuel with
  | zero =>
    intro listed a w _ _ hr hy hS1 hS0 H
    refine ⟨fun h => (by rw [h] at hr; cases hr), fun j hj => ?_⟩
    by_cases hji : j = i
    · subst hji; exact hy.wpOp hi ⟨hS1, hS0⟩ ⟨⟨hS1, fun _ => hS0⟩, H⟩
    · have := ready_mono hj hji
      rw [H.1] at this
      cases this
  | succ fuel ih =>
    intro listed a w hstl hfree hr hy hS1 hS0 H
    refine ⟨fun h => (by rw [h] at hr; cases hr), fun j hj => ?_⟩
    by_cases hji : j = i
    · subst hji; exact hy.wpOp hi ⟨hS1, hS0⟩ ⟨⟨hS1, fun _ => hS0⟩, H⟩
    · have h1 := H.2 j (ready_mono hj hji)
      obtain ⟨hjun, oj, hoj, hall⟩ := mem_ready.1 hj
      have hnot : ∀ e ∈ oj.after, Region.binds md e = true → e.on ≠ i := fun e he hb heq => by
        have h1 := hall e he hb
        have h0 := (mem_ready.1 hr).1
        rw [heq] at h1
        rcases Nat.lt_or_ge i listed.size with h' | h'
        · simp [h'] at h0 h1; rw [h0] at h1; cases h1
        · simp [Array.getElem?_eq_none h'] at h1
      have hjst : j ≠ st := fun e => by
        subst e
        obtain ⟨x, hx, hb, hon⟩ := hst oj hoj
        exact hnot x hx hb hon
      have hstl' : (listed.setIfInBounds j true).getD st true = false := by rw [getD_set_ne true hjst]; exact hstl
      have h2 := wpOp_putIf hoj (hfree j oj hoj hji hjun hnot) (fun cs b => hsel i oi cs b hi) (fun cs b => hsel j oj cs b hoj) hQ hy h1
      have hfree' : ∀ k ok, ops[k]? = some ok → k ≠ i → (listed.setIfInBounds j true).getD k true = false →
          (∀ e ∈ ok.after, Region.binds md e = true → e.on ≠ i) → oi.apart ops ok = true := fun k ok hk hki hun hno => by
        refine hfree k ok hk hki ?_ hno
        by_cases hjk : j = k
        · subst hjk; exact hjun
        · rw [getD_set_ne true hjk] at hun; exact hun
      refine wpOp_mono (fun a' w' h3 => ?_) h2
      have hs0 : S0 w' := h3.2.1.2 (by rw [getD_set_ne true hjst, getD_set_ne true hne]; exact hstl)
      refine ⟨⟨h3.2.1.1, fun _ => hs0⟩, ih (listed.setIfInBounds j true) a' w' hstl' hfree' (ready_mono hr (Ne.symm hji)) h3.1 h3.2.1.1 hs0 ?_⟩
      rw [Array.setIfInBounds_comm _ _ hji]
      exact h3.2.2

/-- Does 'st' wait for 'i' (the closed test)? -/
def waits (md : Region.Mode) (ops : Array Oper) (st i : Nat) : Bool := match ops[st]? with
  | some o => o.after.any fun e => Region.binds md e && e.on == i
  | none => true

theorem waits_spec {i : Nat} (h : waits md ops st i = true) : ∀ os, ops[st]? = some os → ∃ e ∈ os.after, Region.binds md e = true ∧ e.on = i := by
  intro os ho
  unfold waits at h
  rw [ho] at h
  obtain ⟨e, he, hb⟩ := Array.any_eq_true'.1 h
  simp only [Bool.and_eq_true, beq_iff_eq] at hb
  exact ⟨e, he, hb⟩

theorem wpAnyD_take (i : Nat) {oi : Oper} {v : Value} {fuel : Nat} {listed : Array Bool} {a : Act} {w : World} (hi : ops[i]? = some oi)
    (hs : Region.noSelect ops = true) (hf : Region.free md ops listed i = true) (hr : (Region.ready md ops listed).contains i = true) (hne : (i == st) = false) (hst : waits md ops st i = true) (hstl : listed.getD st true = false)
    (hQ : ∀ c a w, Q (.panic c) (a.put oi.dst v) w → Q (.panic c) a w) (hy : YieldsIf P ops (fun w => S1 w ∧ S0 w) oi v a) (hS : S1 w ∧ S0 w)
    (h : wpAnyD P md ops Q st S1 S0 fuel (listed.setIfInBounds i true) (a.put oi.dst v) w) : wpAnyD P md ops Q st S1 S0 (fuel + 1) listed a w :=
  wpAnyD_first hi (Region.noSelect_spec hs) hQ (by simpa using hne) (waits_spec hst) fuel listed a w hstl (Region.free_spec hi hf) (by simpa using hr) hy hS.1 hS.2 h

/-- The one operation that may come up. -/
theorem wpAnyD_one (i : Nat) {o : Oper} {fuel : Nat} {listed : Array Bool} {a : Act} {w : World} (hr : Region.ready md ops listed = [i]) (ho : ops[i]? = some o)
    (h : ∀ K' : Act → World → Prop, Shut (∀ a w, S1 w → ((listed.setIfInBounds i true).getD st true = false → S0 w) → (S1 w → ((listed.setIfInBounds i true).getD st true = false → S0 w) → wpAnyD P md ops Q st S1 S0 fuel (listed.setIfInBounds i true) a w) → K' a w) →
      if Region.wanted o (yielded ops a.tmps) = true then Oper.wp P o a w K' Q else K' (a.put o.dst undef) w) : wpAnyD P md ops Q st S1 S0 (fuel + 1) listed a w := by
  refine ⟨fun h0 => (by rw [hr] at h0; cases h0), fun j hj => ?_⟩
  rw [hr] at hj
  obtain rfl : j = i := by simpa using hj
  exact wpOp_step ho (fun K' hK => h K' (fun a w h1 h0 hW => hK a w ⟨⟨h1, h0⟩, hW h1 h0⟩))

theorem wpAnyD_done {listed : Array Bool} {a : Act} {w : World} (hr : Region.ready md ops listed = []) (h : Q .normal a w) :
    ∀ fuel, wpAnyD P md ops Q st S1 S0 fuel listed a w
  | 0 => ⟨hr, h⟩
  | _ + 1 => ⟨fun _ => h, by rw [hr]; simp⟩

theorem wp_region_D (st : Nat) (S1 S0 : World → Prop) {id : Nat} {a : Act} {w : World} (hm : P.follows .mixedOrders = true) (hS : S1 w.drew ∧ S0 w.drew)
    (h : S1 w.drew ∧ S0 w.drew → wpAnyD P .any ops Q st S1 S0 ops.size (Array.replicate ops.size false) a w.drew) : (Code.region id ops true).wp P Q a w :=
  wp_region_any hm (wpAny_of_D _ _ _ _ (h hS))

end
end Go.Proofs.Qxb6612201a
