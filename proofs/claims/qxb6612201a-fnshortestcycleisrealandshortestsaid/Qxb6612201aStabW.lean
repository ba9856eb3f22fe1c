/-
  WALK: stabTree.lay, stabTree.at.
-/
import Derived.Test.Qxb6612201aLowW
namespace Go.Proofs.Qxb6612201a
open Go.RowKit
set_option linter.unusedVariables false
set_option linter.unusedSimpArgs false

theorem Try.enters51 : ∀ args w, (callFunc 51 args).run Try.prog w = .ok (.enter 51 args) w := enters_of Try.func51 (by kernel_rfl) rfl

set_option maxHeartbeats 3200000 in
set_option maxRecDepth 100000 in
theorem lay1_any (bt bv g z N p : Nat) (x v : Int) (w : World) (hp : (p : Int) < N) (hN : (N : Int) ≤ 4000000) (hv : Hid (w.heap[bv]? = some (.cells #[.int .i64 v] 3 (0, 0)))) (ht : Hid (w.heap[bt]? = some (.cells #[.int .i64 z, .slice (some ⟨g, 0, none⟩) N N] 74 (0, 0))))
    (e1 : w.cell? ⟨g, p, none⟩ = some (.int .i64 x)) (f1 : w.frozen? ⟨g, p, none⟩ = false) :
    Calls Try.prog 51 #[.int .i64 p, .pointer (some ⟨bt, 0, none⟩), .pointer (some ⟨bv, 0, none⟩)] w fun e w' => e = .returned (.tuple #[]) ∧ (w.setCell ⟨g, p, none⟩ (.int .i64 (if v < x then v else x))).drew = w' := by
  have c0 := cell_of_row w bv 0 _ _ _ hv.out
  have c1 := cell_of_row w bt 1 _ _ _ ht.out
  simp only [List.getElem?_toArray, List.getElem?_cons_zero, List.getElem?_cons_succ] at c0 c1
  have b6 : (0 : Int) ≤ (p : Int) := by omega
  go_enter Try.func51, Try.ntmps51
  go_wp2_with fail
  go_region
  go_wp2
  all_goals
    go_returns
    exact ⟨rfl, rfl⟩

def LayInv (W : World) (B bt bv g z N : Nat) (v : Int) (arr : List Int) (ps : List Nat) (w : World) : Prop :=
  w.heap[bv]? = some (.cells #[.int .i64 v] 3 (0, 0)) ∧ w.heap[bt]? = some (.cells #[.int .i64 z, .slice (some ⟨g, 0, none⟩) N N] 74 (0, 0)) ∧ w.ownsRow B 3 1 (.slice (some ⟨g, 0, none⟩) N N) N ((lower arr v ps).map (Value.int .i64)) ∧ W.grownBy w (some g)

set_option maxHeartbeats 3200000 in
set_option maxRecDepth 100000 in
theorem lay_any (B g z N H lo hi : Nat) (v : Int) (arr : List Int) (w : World) (HZ : Hid (z = 2 ^ H)) (HN : Hid (N = 2 * z)) (hz : (z : Int) ≤ 2000000) (hlh : (lo : Int) ≤ 2000000) (hh : (hi : Int) ≤ z) (hL : Hid (arr.length = N))
    (ho : Hid (w.ownsRow B 3 1 (.slice (some ⟨g, 0, none⟩) N N) N (arr.map (Value.int .i64)))) :
    Calls Try.prog 40 #[.agg #[.int .i64 z, .slice (some ⟨g, 0, none⟩) N N], .int .i64 lo, .int .i64 hi, .int .i64 v] w fun e w' => e = .returned (.tuple #[]) ∧ w'.ownsRow B 3 1 (.slice (some ⟨g, 0, none⟩) N N) N ((lower arr v (cover H lo hi)).map (Value.int .i64)) ∧ w.grownBy w' (some g) := by
  have hmf : ∀ (fn : Fn) (first cap : Array Value) (w : World), (Instr.makeFunc fn first cap).run Try.prog w = .ok (.func fn first cap) w := fun _ _ _ _ => rfl
  have hg := (ho.out.lt g rfl).2
  go_enter Try.func40, Try.ntmps40
  go_wp2_with fail
  refine (cover_any 51 #[.pointer (some ⟨w.heap.size, 0, none⟩), .pointer (some ⟨w.heap.size + 1, 0, none⟩)] z H lo hi (LayInv w B w.heap.size (w.heap.size + 1) g z N v arr) _ HZ hz hlh hh Try.enters51 (hidden ?_) (hidden ?_)).mono ?_
  · intro ps p wx _ h1 h2 hI
    obtain ⟨i1, i2, i3, i4⟩ := hI
    have hp : (p : Int) < N := by have := HN.out; omega
    have hN4 : (N : Int) ≤ 4000000 := by have := HN.out; omega
    have e1 := (i3.cellAt p (by omega)).trans (ints_get (lower arr v ps) p (by rw [lower_len, hL.out]; omega))
    refine (lay1_any w.heap.size (w.heap.size + 1) g z N p _ v wx hp hN4 (hidden i1) (hidden i2) e1 (i3.frozenAt p)).mono ?_
    rintro e w' ⟨rfl, rfl⟩
    obtain ⟨s1, s2⟩ := i3.stored p (.int .i64 (if v < iAt (lower arr v ps) p then v else iAt (lower arr v ps) p))
    rw [ints_set] at s1
    refine ⟨rfl, ?_, ?_, ?_, ?_⟩
    · exact (heap_setCell_other wx ⟨g, p, none⟩ (w.heap.size + 1) _ (by simp; omega)).trans i1
    · exact (heap_setCell_other wx ⟨g, p, none⟩ w.heap.size _ (by simp; omega)).trans i2
    · rw [lower_snoc, show min (iAt (lower arr v ps) p) v = (if v < iAt (lower arr v ps) p then v else iAt (lower arr v ps) p) by split <;> omega]
      exact s1
    · exact grown_drew (i4.trans s2)
  · refine ⟨?_, ?_, ?_, ?_⟩
    · exact (heap_alloc_old _ _ (by simp)).trans (heap_two w _ _)
    · exact (heap_alloc_old _ _ (by simp; omega)).trans ((heap_alloc_old _ _ (by simp)).trans (heap_alloc_new w _))
    · exact ((ho.out.alloc _).alloc _).alloc _
    · exact grown_drew (((World.grownBy_alloc _ _ _).trans (World.grownBy_alloc _ _ _)).trans (World.grownBy_alloc _ _ _))
  · rintro e w1 ⟨rfl, i1, i2, i3, i4⟩
    go_wp2_with fail
    go_returns
    exact ⟨rfl, i3, i4⟩

/-- What 'at' says. -/
def AtSays (H i : Nat) (arr : List Int) (m : Int) : Prop := ∀ b : Int, b ≤ 9223372036854775807 → (m < b ↔ ∃ p, 1 ≤ p ∧ Under H p i ∧ iAt arr p < b)

/-- The least of the first j nodes above the leaf. -/
def AtMid (x j : Nat) (arr : List Int) (m : Int) : Prop := ∀ b : Int, b ≤ 9223372036854775807 → (m < b ↔ ∃ j', j' < j ∧ 1 ≤ x / 2 ^ j' ∧ iAt arr (x / 2 ^ j') < b)

set_option maxHeartbeats 3200000 in
set_option maxRecDepth 100000 in
theorem at_any (g z N H i : Nat) (arr : List Int) (w : World) (HZ : Hid (z = 2 ^ H)) (HN : Hid (N = 2 * z)) (hz : (z : Int) ≤ 2000000) (hi : (i : Int) < z) (hr : Hid (Reads w g N arr)) :
    Calls Try.prog 42 #[.agg #[.int .i64 z, .slice (some ⟨g, 0, none⟩) N N], .int .i64 i] w fun e w' => (∃ m, e = .returned (.int .i64 m) ∧ AtSays H i arr m) ∧ Below w.heap.size w w' := by
  have hg := hr.out.2.1
  go_enter Try.func42, Try.ntmps42
  go_wp2_with fail
  refine (leaf_any z i _ hz (by omega)).mono ?_
  rintro e w1 ⟨rfl, hw1⟩
  have hx1 : w1.heap[w.heap.size]? = some (.cells #[.int .i64 z, .slice (some ⟨g, 0, none⟩) N N] 74 (0, 0)) := by
    rw [← hw1, heap_alloc_old _ _ (by simp)]
    exact heap_alloc_new w _
  have hB1 : Below w.heap.size w w1 := by
    rw [← hw1]
    exact ((Below.refl _ _).alloc (Nat.le_refl _) _).alloc (by simp) _
  have c0 := cell_of_row w1 w.heap.size 0 _ _ _ hx1
  have c1 := cell_of_row w1 w.heap.size 1 _ _ _ hx1
  simp only [List.getElem?_toArray, List.getElem?_cons_zero, List.getElem?_cons_succ] at c0 c1
  have HR := hidden (hr.out.below hB1 hg)
  have HB := hidden hB1
  clear hx1 hB1 hw1 hr
  go_wp2_with fail
  go_loopw [5, 6] (fun vm vp wr => ∃ (p j : Nat) (m : Int), vm = .int .i64 m ∧ vp = .int .i64 p ∧ p ≤ z + i ∧ Hid (p = (z + i) / 2 ^ j) ∧ Hid (AtMid (z + i) j arr m) ∧ wr = w1) (fun _ vp _ => (intOf vp).toNat)
  case atStart => exact ⟨z + i, 0, _, rfl, by simp, Nat.le_refl _, hidden (by simp), hidden (fun b hb => ⟨fun h => by omega, fun ⟨j', h, _⟩ => by omega⟩), rfl⟩
  case round =>
    obtain ⟨p, j, m, rfl, rfl, hp, hj, hA, rfl⟩ := hrel
    by_cases h1 : (1 : Int) ≤ p
    · have hpN : (p : Int) < N := by have := HN.out; omega
      have b6 : (0 : Int) ≤ (p : Int) := by omega
      have e1 := HR.out.2.2 p (by omega)
      have hnext : Hid (AtMid (z + i) (j + 1) arr (if iAt arr p < m then iAt arr p else m)) := by
        refine hidden fun b hb => ?_
        have h0 := hA.out b hb
        have hs : (if iAt arr p < m then iAt arr p else m) < b ↔ m < b ∨ iAt arr p < b := by split <;> omega
        rw [hs, h0]
        constructor
        · rintro (⟨j', a1, a2, a3⟩ | h)
          · exact ⟨j', by omega, a2, a3⟩
          · exact ⟨j, by omega, by rw [← hj.out]; omega, by rw [← hj.out]; exact h⟩
        · rintro ⟨j', a1, a2, a3⟩
          by_cases hjj : j' = j
          · subst hjj; right; rw [hj.out]; exact a3
          · exact .inl ⟨j', by omega, a2, a3⟩
      have hnp : Hid (p / 2 = (z + i) / 2 ^ (j + 1)) := hidden (by rw [hj.out, Nat.pow_succ, Nat.div_div_eq_div_mul])
      obtain ⟨m', hm'⟩ : ∃ m', m' = (if iAt arr p < m then iAt arr p else m) := ⟨_, rfl⟩
      rw [← hm'] at hnext
      have hif : (if iAt arr p < m then iAt arr p else m) = m' := hm'.symm
      clear hm'
      go_wp2
      exact ⟨⟨p / 2, j + 1, m', rfl, by congr 1 <;> omega, by omega, hnp, hnext, trivial⟩, by simp [intOf]; omega⟩
    · go_wp2
      go_returns
      refine ⟨⟨m, rfl, fun b hb => ?_⟩, HB.out⟩
      have hp0 : p = 0 := by omega
      have h0 := hA.out b hb
      have hj0 := hj.out
      rw [hp0] at hj0
      rw [h0, HZ.out]
      constructor
      · rintro ⟨j', a1, a2, a3⟩
        exact ⟨_, a2, ⟨j', rfl⟩, a3⟩
      · rintro ⟨q, a1, ⟨j', rfl⟩, a3⟩
        refine ⟨j', ?_, a1, a3⟩
        rcases Nat.lt_or_ge j' j with h | h
        · exact h
        · have h2 : (2 ^ H + i) / 2 ^ j' ≤ (2 ^ H + i) / 2 ^ j := Nat.div_le_div_left (Nat.pow_le_pow_right (by decide) h) (Nat.two_pow_pos j)
          rw [HZ.out] at hj0
          omega

end Go.Proofs.Qxb6612201a
