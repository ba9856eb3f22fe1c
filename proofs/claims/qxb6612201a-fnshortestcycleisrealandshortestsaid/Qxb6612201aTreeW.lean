/-
  WALKS: the trees' makers.
-/
import Derived.Test.Qxb6612201aProg
import Derived.Test.Qxb6612201aTree
import Derived.WalkKit
import Derived.WalkSpells
import Derived.Handy
namespace Go.Proofs.Qxb6612201a
open Go.RowKit
set_option linter.unusedVariables false

theorem hidden {p : Prop} (h : p) : Hid p := h

theorem Try.info3 : (Try.prog.info? 3).map (fun i => (i.zero, i.size, i.bytes)) = some (some (.int .i64 0), 1, 8) := by kernel_rfl

/-- z is a power of two, the least that is not below n. -/
def PowFor (n z : Nat) : Prop := ∃ H, z = 2 ^ H ∧ n ≤ z ∧ (H = 0 ∨ z < 2 * n)

set_option maxRecDepth 100000 in
theorem newItemTree_any (n : Nat) (w : World) (hn : (n : Int) ≤ 1000000) :
    Calls Try.prog 15 #[.int .i64 n] w fun e w' => (∃ z : Nat, e = .returned (.agg #[.int .i64 z]) ∧ PowFor n z) ∧ Below w.heap.size w w' := by
  go_enter Try.func15, Try.ntmps15
  go_wp2
  go_loopw [3] (fun i wr => ∃ z : Nat, i = .int .i64 z ∧ Hid (∃ H, z = 2 ^ H ∧ (H = 0 ∨ z < 2 * n)) ∧ 1 ≤ z ∧ wr = w.alloc (.cells #[.int .i64 0] 44 (0, 0))) (fun i _ => 2 * n - (intOf i).toNat)
  case atStart => exact ⟨1, rfl, hidden ⟨0, rfl, .inl rfl⟩, Nat.le_refl _, rfl⟩
  case round =>
    obtain ⟨z, rfl, hz, h1, rfl⟩ := hrel
    by_cases hlt : (z : Int) < n
    · go_wp2
      go_roundw
      case rel =>
        obtain ⟨H, e, h2⟩ := hz.out
        exact ⟨2 * z, by go_num, hidden ⟨H + 1, by rw [pow_succ_two, e], .inr (by omega)⟩, by omega, trivial⟩
      case measure => simp [intOf]; omega
    · have hz2 : (z : Int) ≤ 2000000 := by
        obtain ⟨H, e, h2⟩ := hz.out
        rcases h2 with rfl | h2
        · simp at e; omega
        · omega
      go_wp2
      go_returns
      refine ⟨⟨z, rfl, ?_⟩, (Below.refl _ _).alloc (Nat.le_refl _) _⟩
      obtain ⟨H, e, h2⟩ := hz.out
      exact ⟨H, e, by omega, h2⟩

theorem leaf_any (z i : Nat) (w : World) (hz : (z : Int) ≤ 2000000) (hi : (i : Int) ≤ 2000000) :
    Calls Try.prog 24 #[.agg #[.int .i64 z], .int .i64 i] w fun e w' => e = .returned (.int .i64 ((z : Int) + (i : Int))) ∧ w.alloc (.cells #[.int .i64 z] 44) = w' := by
  go_enter Try.func24, Try.ntmps24
  go_wp2
  go_ret
  exact ⟨rfl, rfl⟩

/-- The first k filled. -/
def filled (N k : Nat) (v : Int) : List Value := List.replicate k (.int .i64 v) ++ List.replicate (N - k) (.int .i64 0)

theorem filled_set (N k : Nat) (v : Int) (h : k < N) : (filled N k v).set k (.int .i64 v) = filled N (k + 1) v := by
  unfold filled
  rw [List.set_append_right _ _ (by simp), List.length_replicate, Nat.sub_self, show N - k = (N - (k + 1)) + 1 by omega, List.replicate_succ, List.set_cons_zero, List.replicate_succ', List.append_assoc]
  rfl

theorem filled_at (N k : Nat) (v : Int) (h : k < N) : (filled N k v)[k]? = some (.int .i64 0) := by
  unfold filled
  rw [List.getElem?_append_right (by simp), List.length_replicate, Nat.sub_self, List.getElem?_replicate, if_pos (by omega)]

theorem filled_all (N : Nat) (v : Int) : filled N N v = (List.replicate N v).map (Value.int .i64) := by
  unfold filled
  rw [Nat.sub_self, List.map_replicate]
  simp

def MadeNodes (B z : Nat) (v : Int) (e : Ending) (w' : World) : Prop :=
  ∃ g, e = .returned (.slice (some ⟨g, 0, none⟩) (2 * z) (2 * z)) ∧ w'.ownsRow B 3 1 (.slice (some ⟨g, 0, none⟩) (2 * z) (2 * z)) (2 * z) ((List.replicate (2 * z) v).map (Value.int .i64))

set_option maxHeartbeats 3200000 in
set_option maxRecDepth 100000 in
theorem nodes_any (z : Nat) (v : Int) (w : World) (hz : (z : Int) ≤ 2000000) :
    Calls Try.prog 28 #[.agg #[.int .i64 z], .int .i64 v] w fun e w' => MadeNodes w.heap.size z v e w' ∧ Below w.heap.size w w' := by
  obtain ⟨i3, hi3, z30, z31, z32⟩ := info_parts Try.info3
  go_enter Try.func28, Try.ntmps28
  go_wp2_with (at_make; refine wpList_make_full _ rfl _ _ 22 rfl w.heap.size 3 i3 (.int .i64 0) 1 Try.underlying22 hi3 z30 z31 .i64 .i64 _ _ (2 * z) rfl rfl rfl rfl (by rw [z32]; omega) (by unfold maxLen; omega) (by simp) ?_; intro w1 hown1 hgrow1)
  have e0 : (w.alloc (Obj.cells #[Value.int IntKind.i64 z] 44)).heap.size = w.heap.size + 1 := by simp
  rw [e0] at hown1
  have hsm : ((2 * z : Nat) : Int) ≤ 4000000 := by omega
  obtain ⟨N, hN⟩ : ∃ N, N = 2 * z := ⟨_, rfl⟩
  have hN' : (2 * (z : Int)) = (N : Int) := by omega
  rw [← hN] at hown1
  rw [← hN, hN']
  have hsN : (N : Int) ≤ 4000000 := by omega
  have hB1 : Below w.heap.size w w1 := ((Below.refl _ w).alloc (Nat.le_refl _) _).grown hgrow1 (by simp) (fun k hk => by cases hk)
  rw [show (madeCells (Value.int IntKind.i64 0).cells (N * 1)).toList = filled N 0 v by rw [show (Value.int IntKind.i64 0).cells = #[.int .i64 0] from rfl, Nat.mul_one, toList_madeCells_one]; rfl] at hown1
  have HO := hidden hown1
  have HB := hidden hB1
  have HN := hidden hN
  clear hown1 hB1 hgrow1 e0 hN hN' hsm
  go_loopw [13] (fun i wr => ∃ k : Nat, k ≤ N ∧ i = .int .i64 k ∧ Hid (wr.ownsRow w.heap.size 3 1 (.slice (some ⟨w.heap.size + 1, 0, none⟩) N N) N (filled N k v)) ∧ Hid (Below w.heap.size w wr)) (fun i _ => N - (intOf i).toNat)
  case atStart => exact ⟨0, Nat.zero_le _, rfl, HO, HB⟩
  case round =>
    obtain ⟨k, hk, rfl, ho, hb⟩ := hrel
    by_cases hlt : (k : Int) < N
    · have e1 := (ho.out.cellAt k (by omega)).trans (filled_at N k v (by omega))
      have f1 := ho.out.frozenAt k
      obtain ⟨r1, g1⟩ := ho.out.stored k (.int .i64 v)
      rw [filled_set N k v (by omega)] at r1
      have R1 := hidden r1
      have G1 := hidden g1
      clear r1 g1
      go_wp2
      go_roundw
      case rel => exact ⟨k + 1, by omega, by go_num, R1, hidden (hb.out.grown G1.out hb.out.size (fun j hj => by cases hj; exact Nat.le_succ _))⟩
      case measure => simp [intOf]; omega
    · go_wp2
      go_returns
      have : k = N := by omega
      subst this
      have h1 := ho.out
      rw [filled_all, HN.out] at h1
      exact ⟨⟨w.heap.size + 1, by rw [HN.out]; rfl, h1⟩, hb.out⟩

theorem Try.size67 : (Try.prog.info? 67).map (·.size) = some 2 := by kernel_rfl
theorem Try.size74 : (Try.prog.info? 74).map (·.size) = some 2 := by kernel_rfl

theorem own_mono {w : World} {base base' e size n : Nat} {v : Value} {xs : List Value} (h : w.ownsRow base e size v n xs) (hb : base' ≤ base) : w.ownsRow base' e size v n xs :=
  ⟨h.1, h.2.elim .inl fun ⟨g, cap, cur, h1, h2, h3⟩ => .inr ⟨g, cap, cur, h1, Nat.le_trans hb h2, h3⟩⟩

theorem grown_set (w : World) (b j : Nat) (u : Value) : w.grownBy (w.setCell ⟨b, j, none⟩ u) (some b) :=
  ⟨rfl, rfl, rfl, by simp, fun k _ hk => heap_setCell_other w ⟨b, j, none⟩ k u (fun e => hk (by simp [e]))⟩

/-- What newMinTree and newStabTree hand back: size and row. -/
def MadeTree (B n : Nat) (x : Int) (e : Ending) (w' : World) : Prop :=
  ∃ z g : Nat, e = .returned (.agg #[.int .i64 z, .slice (some ⟨g, 0, none⟩) (2 * z) (2 * z)]) ∧ PowFor n z ∧ w'.ownsRow B 3 1 (.slice (some ⟨g, 0, none⟩) (2 * z) (2 * z)) (2 * z) ((List.replicate (2 * z) x).map (Value.int .i64))

set_option maxHeartbeats 3200000 in
set_option maxRecDepth 100000 in
theorem newMinTree_any (n : Nat) (w : World) (hn : (n : Int) ≤ 1000000) :
    Calls Try.prog 19 #[.int .i64 n] w fun e w' => MadeTree w.heap.size n 9223372036854775807 e w' ∧ Below w.heap.size w w' := by
  go_enter Try.func19, Try.ntmps19
  go_wp2_with fail
  refine (newItemTree_any n _ hn).mono ?_
  rintro e w1 ⟨⟨z, rfl, hz⟩, hb1⟩
  have HZ := hidden hz
  have hz2 : (z : Int) ≤ 2000000 := by
    obtain ⟨H, e, h1, h2⟩ := hz
    rcases h2 with rfl | h2
    · simp at e; omega
    · omega
  clear hz
  have e0 : (w.alloc (Obj.cells #[Value.int IntKind.i64 0, Value.slice none 0 0] 67)).heap.size = w.heap.size + 1 := by simp
  have c1 : w1.heap[w.heap.size]? = some (.cells #[Value.int IntKind.i64 0, Value.slice none 0 0] 67 (0, 0)) := by
    rw [hb1.block _ (by rw [e0]; exact Nat.lt_succ_self _)]
    exact heap_alloc_new w _
  go_wp2_with fail
  refine (nodes_any z 9223372036854775807 _ hz2).mono ?_
  rintro e w2 ⟨⟨g, rfl, hown⟩, hb2⟩
  have e1 : (w1.alloc (Obj.cells #[Value.int IntKind.i64 z, Value.slice none 0 0] 67)).heap.size = w1.heap.size + 1 := by simp
  have lt1 : w.heap.size < w1.heap.size := by have := hb1.size; rw [e0] at this; omega
  have d1 : w2.heap[w1.heap.size]? = some (.cells #[Value.int IntKind.i64 z, Value.slice none 0 0] 67 (0, 0)) := by
    rw [hb2.block _ (by rw [e1]; exact Nat.lt_succ_self _)]
    exact heap_alloc_new w1 _
  have d0 : w2.heap[w.heap.size]? = some (.cells #[Value.int IntKind.i64 0, Value.slice none 0 0] 67 (0, 0)) := by
    rw [hb2.block _ (by rw [e1]; omega)]
    have h1 := heap_alloc_old w1 (Obj.cells #[Value.int IntKind.i64 z, Value.slice none 0 0] 67) lt1
    rw [h1]
    exact c1
  have a0 := cell_of_row w2 w.heap.size 0 _ _ _ d0
  have a1 := cell_of_row w2 w.heap.size 1 _ _ _ d0
  have a2 := frozen_of_row w2 w.heap.size 0 _ _ d0
  have a3 := frozen_of_row w2 w.heap.size 1 _ _ d0
  have b0 := cell_of_row w2 w1.heap.size 0 _ _ _ d1
  have b1 := cell_of_row w2 w1.heap.size 1 _ _ _ d1
  have b2 := frozen_of_row w2 w1.heap.size 0 _ _ d1
  have b3 := frozen_of_row w2 w1.heap.size 1 _ _ d1
  simp only [List.getElem?_toArray, List.getElem?_cons_zero, List.getElem?_cons_succ] at a0 a1 b0 b1
  have ne : w.heap.size ≠ w1.heap.size := by omega
  have ne' : w1.heap.size ≠ w.heap.size := by omega
  have HO := hidden hown
  have HB1 := hidden hb1
  have HB2 := hidden hb2
  have D0 := hidden d0
  have D0 := hidden d0
  clear hown hb1 hb2 d0 d1 c1
  go_wp2_with fail
  have hfin : (((w2.setCell ⟨w1.heap.size, 1, none⟩ (Value.slice (some ⟨g, 0, none⟩) (2 * z) (2 * z))).setCell ⟨w.heap.size, 0, none⟩ (Value.int IntKind.i64 z)).setCell ⟨w.heap.size, 1, none⟩ (Value.slice (some ⟨g, 0, none⟩) (2 * z) (2 * z))).heap[w.heap.size]? = some (.cells #[Value.int IntKind.i64 z, Value.slice (some ⟨g, 0, none⟩) (2 * z) (2 * z)] 67 (0, 0)) := by
    have h1 := (heap_setCell_other w2 ⟨w1.heap.size, 1, none⟩ w.heap.size (Value.slice (some ⟨g, 0, none⟩) (2 * z) (2 * z)) ne).trans D0.out
    have h2 := heap_setCell_same _ w.heap.size 0 _ 67 (Value.int IntKind.i64 z) h1
    have h3 := heap_setCell_same _ w.heap.size 1 _ 67 (Value.slice (some ⟨g, 0, none⟩) (2 * z) (2 * z)) h2
    exact h3
  refine bodyPost_ret_by (results_cell_row rfl _ _ w.heap.size 67 _ (0, 0) _ rfl hfin Try.underlying67 rfl Try.size67) rfl ?_
  have hB : Below w.heap.size w w2 := by
    have h1 := ((Below.refl w.heap.size w).alloc (Nat.le_refl _) (Obj.cells #[Value.int IntKind.i64 0, Value.slice none 0 0] 67)).trans (HB1.out.mono (by rw [e0]; omega))
    have h2 := h1.alloc h1.size (Obj.cells #[Value.int IntKind.i64 z, Value.slice none 0 0] 67)
    exact h2.trans (HB2.out.mono (by rw [e1]; omega))
  have hg := (HO.out.lt g rfl).1
  rw [e1] at hg
  have o1 := own_mono HO.out (show w.heap.size ≤ _ by rw [e1]; omega)
  have o2 := o1.kept (grown_set w2 w1.heap.size 1 (Value.slice (some ⟨g, 0, none⟩) (2 * z) (2 * z))) (Or.inr (by simp [Value.ownBlock]; omega))
  have o3 := o2.kept (grown_set _ w.heap.size 0 (Value.int IntKind.i64 z)) (Or.inr (by simp [Value.ownBlock]; omega))
  have o4 := o3.kept (grown_set _ w.heap.size 1 (Value.slice (some ⟨g, 0, none⟩) (2 * z) (2 * z))) (Or.inr (by simp [Value.ownBlock]; omega))
  have q2 := hB.grown (grown_set w2 w1.heap.size 1 (Value.slice (some ⟨g, 0, none⟩) (2 * z) (2 * z))) hB.size (fun k hk => by cases hk; omega)
  have q3 := q2.grown (grown_set _ w.heap.size 0 (Value.int IntKind.i64 z)) q2.size (fun k hk => by cases hk; omega)
  have q4 := q3.grown (grown_set _ w.heap.size 1 (Value.slice (some ⟨g, 0, none⟩) (2 * z) (2 * z))) q3.size (fun k hk => by cases hk; omega)
  exact ⟨⟨z, g, rfl, HZ.out, o4⟩, q4⟩

set_option maxHeartbeats 3200000 in
set_option maxRecDepth 100000 in
theorem newStabTree_any (n : Nat) (w : World) (hn : (n : Int) ≤ 1000000) :
    Calls Try.prog 38 #[.int .i64 n] w fun e w' => MadeTree w.heap.size n 9223372036854775807 e w' ∧ Below w.heap.size w w' := by
  go_enter Try.func38, Try.ntmps38
  go_wp2_with fail
  refine (newItemTree_any n _ hn).mono ?_
  rintro e w1 ⟨⟨z, rfl, hz⟩, hb1⟩
  have HZ := hidden hz
  have hz2 : (z : Int) ≤ 2000000 := by
    obtain ⟨H, e, h1, h2⟩ := hz
    rcases h2 with rfl | h2
    · simp at e; omega
    · omega
  clear hz
  have e0 : (w.alloc (Obj.cells #[Value.int IntKind.i64 0, Value.slice none 0 0] 74)).heap.size = w.heap.size + 1 := by simp
  have c1 : w1.heap[w.heap.size]? = some (.cells #[Value.int IntKind.i64 0, Value.slice none 0 0] 74 (0, 0)) := by
    rw [hb1.block _ (by rw [e0]; exact Nat.lt_succ_self _)]
    exact heap_alloc_new w _
  go_wp2_with fail
  refine (nodes_any z 9223372036854775807 _ hz2).mono ?_
  rintro e w2 ⟨⟨g, rfl, hown⟩, hb2⟩
  have e1 : (w1.alloc (Obj.cells #[Value.int IntKind.i64 z, Value.slice none 0 0] 74)).heap.size = w1.heap.size + 1 := by simp
  have lt1 : w.heap.size < w1.heap.size := by have := hb1.size; rw [e0] at this; omega
  have d1 : w2.heap[w1.heap.size]? = some (.cells #[Value.int IntKind.i64 z, Value.slice none 0 0] 74 (0, 0)) := by
    rw [hb2.block _ (by rw [e1]; exact Nat.lt_succ_self _)]
    exact heap_alloc_new w1 _
  have d0 : w2.heap[w.heap.size]? = some (.cells #[Value.int IntKind.i64 0, Value.slice none 0 0] 74 (0, 0)) := by
    rw [hb2.block _ (by rw [e1]; omega)]
    have h1 := heap_alloc_old w1 (Obj.cells #[Value.int IntKind.i64 z, Value.slice none 0 0] 74) lt1
    rw [h1]
    exact c1
  have a0 := cell_of_row w2 w.heap.size 0 _ _ _ d0
  have a1 := cell_of_row w2 w.heap.size 1 _ _ _ d0
  have a2 := frozen_of_row w2 w.heap.size 0 _ _ d0
  have a3 := frozen_of_row w2 w.heap.size 1 _ _ d0
  have b0 := cell_of_row w2 w1.heap.size 0 _ _ _ d1
  have b1 := cell_of_row w2 w1.heap.size 1 _ _ _ d1
  have b2 := frozen_of_row w2 w1.heap.size 0 _ _ d1
  have b3 := frozen_of_row w2 w1.heap.size 1 _ _ d1
  simp only [List.getElem?_toArray, List.getElem?_cons_zero, List.getElem?_cons_succ] at a0 a1 b0 b1
  have ne : w.heap.size ≠ w1.heap.size := by omega
  have ne' : w1.heap.size ≠ w.heap.size := by omega
  have HO := hidden hown
  have HB1 := hidden hb1
  have HB2 := hidden hb2
  have D0 := hidden d0
  have D0 := hidden d0
  clear hown hb1 hb2 d0 d1 c1
  go_wp2_with fail
  have hfin : (((w2.setCell ⟨w1.heap.size, 1, none⟩ (Value.slice (some ⟨g, 0, none⟩) (2 * z) (2 * z))).setCell ⟨w.heap.size, 0, none⟩ (Value.int IntKind.i64 z)).setCell ⟨w.heap.size, 1, none⟩ (Value.slice (some ⟨g, 0, none⟩) (2 * z) (2 * z))).heap[w.heap.size]? = some (.cells #[Value.int IntKind.i64 z, Value.slice (some ⟨g, 0, none⟩) (2 * z) (2 * z)] 74 (0, 0)) := by
    have h1 := (heap_setCell_other w2 ⟨w1.heap.size, 1, none⟩ w.heap.size (Value.slice (some ⟨g, 0, none⟩) (2 * z) (2 * z)) ne).trans D0.out
    have h2 := heap_setCell_same _ w.heap.size 0 _ 74 (Value.int IntKind.i64 z) h1
    have h3 := heap_setCell_same _ w.heap.size 1 _ 74 (Value.slice (some ⟨g, 0, none⟩) (2 * z) (2 * z)) h2
    exact h3
  refine bodyPost_ret_by (results_cell_row rfl _ _ w.heap.size 74 _ (0, 0) _ rfl hfin Try.underlying74 rfl Try.size74) rfl ?_
  have hB : Below w.heap.size w w2 := by
    have h1 := ((Below.refl w.heap.size w).alloc (Nat.le_refl _) (Obj.cells #[Value.int IntKind.i64 0, Value.slice none 0 0] 74)).trans (HB1.out.mono (by rw [e0]; omega))
    have h2 := h1.alloc h1.size (Obj.cells #[Value.int IntKind.i64 z, Value.slice none 0 0] 74)
    exact h2.trans (HB2.out.mono (by rw [e1]; omega))
  have hg := (HO.out.lt g rfl).1
  rw [e1] at hg
  have o1 := own_mono HO.out (show w.heap.size ≤ _ by rw [e1]; omega)
  have o2 := o1.kept (grown_set w2 w1.heap.size 1 (Value.slice (some ⟨g, 0, none⟩) (2 * z) (2 * z))) (Or.inr (by simp [Value.ownBlock]; omega))
  have o3 := o2.kept (grown_set _ w.heap.size 0 (Value.int IntKind.i64 z)) (Or.inr (by simp [Value.ownBlock]; omega))
  have o4 := o3.kept (grown_set _ w.heap.size 1 (Value.slice (some ⟨g, 0, none⟩) (2 * z) (2 * z))) (Or.inr (by simp [Value.ownBlock]; omega))
  have q2 := hB.grown (grown_set w2 w1.heap.size 1 (Value.slice (some ⟨g, 0, none⟩) (2 * z) (2 * z))) hB.size (fun k hk => by cases hk; omega)
  have q3 := q2.grown (grown_set _ w.heap.size 0 (Value.int IntKind.i64 z)) q2.size (fun k hk => by cases hk; omega)
  have q4 := q3.grown (grown_set _ w.heap.size 1 (Value.slice (some ⟨g, 0, none⟩) (2 * z) (2 * z))) q3.size (fun k hk => by cases hk; omega)
  exact ⟨⟨z, g, rfl, HZ.out, o4⟩, q4⟩


end Go.Proofs.Qxb6612201a
