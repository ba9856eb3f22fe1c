/-
  THE MAP OF shortestCycle: the place of an item among its writer's writes.
-/
import Derived.Test.Qxb6612201aSteps
import Derived.Test.Qxb6612201aProg
import Derived.Maps.OwnSet
import Derived.DeepKeys4
import Derived.WalkKit
namespace Go.Proofs.Qxb6612201a
open Go.RowKit Go.Maps
set_option linter.unusedVariables false
set_option linter.unusedSectionVars false

theorem Try.laidOut : laidOutB Try.prog = true := by kernel_rfl
theorem Try.row62 : (62 : TypeId) < Try.prog.types.size := of_decide_eq_true (by kernel_rfl)
theorem Try.cells62 : Try.prog.cellsOf 62 = 2 := by kernel_rfl
theorem Try.wide62 : (match Try.prog.underlying 62 with | some (.array _ _) | some (.struct _) => true | _ => false) = true := by kernel_rfl
set_option maxRecDepth 100000 in
theorem Try.law62 : WideMaps.KeyLaw Try.prog 62 := deep_law_laid Try.laidOut (m := 2) (by omega) Try.row62 (by kernel_rfl) Try.wide62
theorem Try.keyed62 : Keyed Try.prog 62 := Keyed.of_law Try.law62
theorem Try.zero3 (w : World) : (zeroValue 3).run Try.prog w = .ok (.int .i64 0) w := by kernel_rfl

theorem Try.keyType62 : Try.prog.keyType 62 = true := by kernel_rfl
theorem Try.size_succ : ∃ m, Try.prog.types.size = m + 1 := Nat.exists_eq_succ_of_ne_zero (fun e => by have h := Try.row62; rw [e] at h; exact absurd h (Nat.not_lt_zero _))
theorem Try.cells3 : Try.prog.cellsOf 3 = 1 := by kernel_rfl

theorem key62 {a b : Int} (wa : (Lit.int .i64 a).wf = true) (wb : (Lit.int .i64 b).wf = true) : ∃ l, keyOf Try.prog 62 (.agg #[.int .i64 a, .int .i64 b]) = some l := by
  obtain ⟨m, hm⟩ := Try.size_succ
  refine ⟨.string (keyBytes [.int .i64 a, .int .i64 b]), ?_⟩
  unfold keyOf
  simp only [Try.underlying62]
  rw [if_pos (by simp [Try.keyType62, Value.formed, Try.underlying62, Try.cells62]), hm]
  unfold Program.keyLits
  simp only [Try.underlying62, Value.cells]
  rw [if_pos ⟨by rw [Try.cells62]; rfl, by simp⟩]
  simp [Try.cells3, Program.keyLits, Try.underlying3, wa, wb]

/-- The map says where an item's write stands. -/
def WroteIs (wr : Nat → List (Int × Int × Int)) (D : DataW Unit) : Prop :=
  ∀ (t x : Nat) (l : Lit), keyOf Try.prog 62 (.agg #[.int .i64 (t : Int), .int .i64 (x : Int)]) = some l →
    (Maps.has D l = true ↔ ∃ e ∈ wr t, e.1 = x) ∧ ∀ (k : Nat) (e : Int × Int × Int), (wr t)[k]? = some e → e.1 = x → D.atKey l (.lit (.int .i64 0)) = .lit (.int .i64 k)

theorem WroteIs.start : WroteIs (fun _ => []) (.map []) := fun t x l hl => ⟨by simp [Maps.has_eq], fun k e he => by simp at he⟩

/-- What is looked up, and is there. -/
theorem WroteIs.hit {wr : Nat → List (Int × Int × Int)} {D : DataW Unit} (h : WroteIs wr D) {t x : Nat} {l : Lit} (hl : keyOf Try.prog 62 (.agg #[.int .i64 (t : Int), .int .i64 (x : Int)]) = some l) (hh : Maps.has D l = true) {c : Int} (hc : D.atKey l (.lit (.int .i64 0)) = .lit (.int .i64 c)) :
    ∃ (k : Nat) (e : Int × Int × Int), (wr t)[k]? = some e ∧ e.1 = x ∧ c = k := by
  obtain ⟨e, he, hx⟩ := (h t x l hl).1.1 hh
  obtain ⟨k, hk⟩ := List.mem_iff_getElem?.1 he
  have := (h t x l hl).2 k e hk hx
  rw [hc] at this
  exact ⟨k, e, hk, hx, by simpa using this⟩

theorem WroteIs.miss {wr : Nat → List (Int × Int × Int)} {D : DataW Unit} (h : WroteIs wr D) {t x : Nat} {l : Lit} (hl : keyOf Try.prog 62 (.agg #[.int .i64 (t : Int), .int .i64 (x : Int)]) = some l) (hh : Maps.has D l = false) : ∀ e ∈ wr t, e.1 ≠ x := fun e he hx => by
  have := (h t x l hl).1.2 ⟨e, he, hx⟩
  rw [hh] at this
  cases this

theorem WroteIs.old {wr : Nat → List (Int × Int × Int)} {D : DataW Unit} (h : WroteIs wr D) {t k : Nat} {e0 : Int × Int × Int} (hk : (wr t)[k]? = some e0) (p : Int) : WroteIs (updN wr t ((wr t).set k (e0.1, e0.2.1, p))) D := by
  have hkl := (List.getElem?_eq_some_iff.1 hk).1
  have key : ∀ (t' j : Nat) (e : Int × Int × Int), (updN wr t ((wr t).set k (e0.1, e0.2.1, p)) t')[j]? = some e → ∃ e', (wr t')[j]? = some e' ∧ e'.1 = e.1 := fun t' j e he => by
    by_cases et : t' = t
    · subst et
      rw [updN_same] at he
      by_cases ej : j = k
      · subst ej
        rw [List.getElem?_set_self hkl] at he
        cases he
        exact ⟨e0, hk, rfl⟩
      · rw [List.getElem?_set_ne (Ne.symm ej)] at he
        exact ⟨e, he, rfl⟩
    · rw [updN_other _ _ et] at he
      exact ⟨e, he, rfl⟩
  have key2 : ∀ (t' j : Nat) (e : Int × Int × Int), (wr t')[j]? = some e → ∃ e', (updN wr t ((wr t).set k (e0.1, e0.2.1, p)) t')[j]? = some e' ∧ e'.1 = e.1 := fun t' j e he => by
    by_cases et : t' = t
    · subst et
      rw [updN_same]
      by_cases ej : j = k
      · subst ej
        rw [List.getElem?_set_self hkl]
        rw [hk] at he
        cases he
        exact ⟨_, rfl, rfl⟩
      · rw [List.getElem?_set_ne (Ne.symm ej)]
        exact ⟨e, he, rfl⟩
    · rw [updN_other _ _ et]
      exact ⟨e, he, rfl⟩
  intro t' x l hl
  obtain ⟨h1, h2⟩ := h t' x l hl
  refine ⟨h1.trans ⟨?_, ?_⟩, fun j e he hx => ?_⟩
  · rintro ⟨e, he, hx⟩
    obtain ⟨j, hj⟩ := List.mem_iff_getElem?.1 he
    obtain ⟨e', h3, h4⟩ := key2 t' j e hj
    exact ⟨e', List.mem_of_getElem? h3, by omega⟩
  · rintro ⟨e, he, hx⟩
    obtain ⟨j, hj⟩ := List.mem_iff_getElem?.1 he
    obtain ⟨e', h3, h4⟩ := key t' j e hj
    exact ⟨e', List.mem_of_getElem? h3, by omega⟩
  · obtain ⟨e', h3, h4⟩ := key t' j e he
    exact h2 j e' h3 (by omega)

theorem WroteIs.new {wr : Nat → List (Int × Int × Int)} {D : DataW Unit} (h : WroteIs wr D) (hm : Maps.IsMap D) {t x : Nat} {l : Lit} (hl : keyOf Try.prog 62 (.agg #[.int .i64 (t : Int), .int .i64 (x : Int)]) = some l) (hh : Maps.has D l = false) (p q : Int) :
    WroteIs (updN wr t (wr t ++ [((x : Int), p, q)])) (D.put l (.lit (.int .i64 (wr t).length))) := by
  have hno := h.miss hl hh
  have hK := Try.keyed62.key hl
  intro t' x' l' hl'
  by_cases e : t' = t ∧ x' = x
  · obtain ⟨rfl, rfl⟩ := e
    rw [hl] at hl'
    cases hl'
    refine ⟨⟨fun _ => ⟨((x' : Int), p, q), by rw [updN_same]; simp, rfl⟩, fun _ => has_put_same hm hK _⟩, fun k e he hx => ?_⟩
    rw [atKey_put_same hm hK]
    rw [updN_same] at he
    rcases Nat.lt_trichotomy k (wr t').length with hk | hk | hk
    · rw [List.getElem?_append_left hk] at he
      exact absurd hx (hno e (List.mem_of_getElem? he))
    · rw [hk]
    · rw [List.getElem?_eq_none (by simp; omega)] at he
      cases he
  · have hne : l' ≠ l := fun el => by
      subst el
      have := Try.law62.inj hl hl'
      simp only [Value.agg.injEq] at this
      have h1 := congrArg Array.toList this
      simp only [List.cons.injEq, Value.int.injEq] at h1
      omega
    obtain ⟨h1, h2⟩ := h t' x' l' hl'
    rw [has_put_other hne, atKey_put_other hne]
    by_cases et : t' = t
    · subst et
      rw [updN_same]
      refine ⟨h1.trans ⟨fun ⟨e1, h3, h4⟩ => ⟨e1, List.mem_append_left _ h3, h4⟩, fun ⟨e1, h3, h4⟩ => ?_⟩, fun k e1 he hx => ?_⟩
      · rcases List.mem_append.1 h3 with h5 | h5
        · exact ⟨e1, h5, h4⟩
        · rw [List.mem_singleton] at h5
          subst h5
          simp at h4
          omega
      · rcases Nat.lt_or_ge k (wr t').length with hk | hk
        · rw [List.getElem?_append_left hk] at he
          exact h2 k e1 he hx
        · have h6 := List.mem_of_getElem? he
          rw [List.getElem?_append_right hk] at he
          have h7 := List.mem_of_getElem? he
          rw [List.mem_singleton] at h7
          subst h7
          simp at hx
          omega
    · rw [updN_other _ _ et]
      exact ⟨h1, h2⟩

end Go.Proofs.Qxb6612201a
