/-
  WALK: 'reach' (18): the function within shortestCycle that reaches a transaction.
-/
import Derived.Test.Qxb6612201aQue
import Derived.Test.Qxb6612201aGraph
import Derived.Handy
import Derived.WalkSmall
namespace Go.Proofs.Qxb6612201a
open Go.RowKit
set_option linter.unusedVariables false
set_option linter.unusedSimpArgs false

/-- All blocks but those of S lie as they lay. -/
structure Turned (S : List Nat) (w w' : World) : Prop where
  os : w'.os = w.os
  tape : w'.tape = w.tape
  output : w'.output = w.output
  size : w.heap.size ≤ w'.heap.size
  block : ∀ k, k < w.heap.size → k ∉ S → w'.heap[k]? = w.heap[k]?

theorem Turned.refl (S : List Nat) (w : World) : Turned S w w := ⟨rfl, rfl, rfl, Nat.le_refl _, fun _ _ _ => rfl⟩

theorem Turned.trans {S T : List Nat} {a b c : World} (h : Turned S a b) (k : Turned T b c) (hT : ∀ x ∈ T, x ∈ S ∨ a.heap.size ≤ x) : Turned S a c :=
  ⟨k.os.trans h.os, k.tape.trans h.tape, k.output.trans h.output, Nat.le_trans h.size k.size, fun j hj hne =>
    (k.block j (Nat.lt_of_lt_of_le hj h.size) (fun hm => (hT j hm).elim hne (fun h1 => by omega))).trans (h.block j hj hne)⟩

theorem Turned.of_grown {w w' : World} {r : Option Nat} (h : w.grownBy w' r) (S : List Nat) (hr : ∀ k, r = some k → k ∈ S ∨ w.heap.size ≤ k) : Turned S w w' :=
  ⟨h.os, h.tape, h.output, h.size, fun k hk hne => h.block k hk (fun e => (hr k e.symm).elim hne (fun h1 => by omega))⟩

theorem Turned.below {S : List Nat} {w w' : World} (h : Turned S w w') {B : Nat} (hB : B ≤ w.heap.size) (hS : ∀ k ∈ S, B ≤ k) : Below B w w' :=
  ⟨h.os, h.tape, h.output, h.size, fun k hk => h.block k (by omega) (fun hm => by have := hS k hm; omega)⟩

theorem Turned.of_below {w w' : World} {B : Nat} (h : Below B w w') (hB : w.heap.size ≤ B) : Turned [] w w' :=
  ⟨h.os, h.tape, h.output, h.size, fun k hk _ => h.block k (by omega)⟩

theorem Turned.drew {S : List Nat} {w w' : World} (h : Turned S w w') : Turned S w w'.drew := ⟨h.os, h.tape, h.output, h.size, h.block⟩
theorem Turned.drewN {S : List Nat} {w w' : World} (h : Turned S w w') (k : Nat) : Turned S w (w'.drewN k) := ⟨h.os, h.tape, h.output, h.size, h.block⟩

theorem Turned.keep {S : List Nat} {w w' : World} (h : Turned S w w') {k : Nat} {o : Obj} (hk : w.heap[k]? = some o) (hne : k ∉ S) : w'.heap[k]? = some o :=
  (h.block k (Array.getElem?_eq_some_iff.1 hk).1 hne).trans hk

/-- The distances and the queue. -/
structure QMem (bDist bD bQ n : Nat) (ds : List Int) (q : List Nat) (qb qo qc : Nat) (w : World) : Prop where
  box : w.heap[bDist]? = some (.cells #[.slice (some ⟨bD, 0, none⟩) n n] 22 (0, 0))
  dist : w.heap[bD]? = some (.cells (ds.map (Value.int .i64)).toArray 3 (0, 0))
  len : ds.length = n
  que : w.heap[bQ]? = some (.cells #[.slice (some ⟨qb, qo, none⟩) q.length qc] 22 (0, 0))
  own : OwnsQ w qb qo qc q
  ne : bDist ≠ bD ∧ bDist ≠ bQ ∧ bDist ≠ qb ∧ bD ≠ bQ ∧ bD ≠ qb ∧ bQ ≠ qb

theorem QMem.turned {bDist bD bQ n : Nat} {ds : List Int} {q : List Nat} {qb qo qc : Nat} {w w' : World} {S : List Nat} (h : QMem bDist bD bQ n ds q qb qo qc w) (ht : Turned S w w') (h1 : bDist ∉ S) (h2 : bD ∉ S) (h3 : bQ ∉ S) (h4 : qb ∉ S) : QMem bDist bD bQ n ds q qb qo qc w' :=
  ⟨ht.keep h.box h1, ht.keep h.dist h2, h.len, ht.keep h.que h3, by
    obtain ⟨cur, a1, a2⟩ := h.own
    exact ⟨cur, ht.keep a1 h4, a2⟩, h.ne⟩

theorem ne_blk0 {b c o q : Nat} (h : b ≠ c) : (⟨b, o, none⟩ : Addr) ≠ ⟨c, q, none⟩ := fun e => h (by cases e; rfl)

/-- What 'reach' leaves. -/
def ReachPost (bDist bD bQ n v : Nat) (d : Int) (ds : List Int) (q : List Nat) (qb : Nat) (w w' : World) : Prop :=
  ∃ qb' qo' qc', QMem bDist bD bQ n (if dAt ds v < 0 then ds.set v d else ds) (if dAt ds v < 0 then q ++ [v] else q) qb' qo' qc' w' ∧ (qb' = qb ∨ w.heap.size ≤ qb') ∧ Turned [bD, bQ, qb] w w'

theorem dist_get (ds : List Int) (v : Nat) (hv : v < ds.length) : (ds.map (Value.int .i64)).toArray[v]? = some (.int .i64 (dAt ds v)) := by
  rw [List.getElem?_toArray, List.getElem?_map]
  unfold dAt
  rw [List.getD_eq_getElem?_getD, List.getElem?_eq_getElem hv]
  rfl

set_option maxHeartbeats 3200000 in
set_option maxRecDepth 100000 in
theorem reach_any (bDist bD bQ n v : Nat) (d : Int) (ds : List Int) (q : List Nat) (qb qo qc : Nat) (w : World) (hv : (v : Int) < n) (hn : (n : Int) ≤ 1024) (hq : Hid (q.length ≤ 100000)) (hM : Hid (QMem bDist bD bQ n ds q qb qo qc w)) :
    Calls Try.prog 18 #[.int .i64 v, .int .i64 d, .pointer (some ⟨bDist, 0, none⟩), .pointer (some ⟨bQ, 0, none⟩)] w fun e w' => e = .returned (.tuple #[]) ∧ ReachPost bDist bD bQ n v d ds q qb w w' := by
  obtain ⟨i3, hi3, z30, z31, z32⟩ := info_parts Try.info3
  have c0 := cell_of_row w bDist 0 _ _ _ hM.out.box
  have c1 := cell_of_row w bD v _ _ _ hM.out.dist
  have c2 := cell_of_row w bQ 0 _ _ _ hM.out.que
  have f1 := frozen_of_row w bD v _ _ hM.out.dist
  rw [dist_get ds v (by rw [hM.out.len]; omega)] at c1
  simp only [List.getElem?_toArray, List.getElem?_cons_zero] at c0 c2
  have b0 : (0 : Int) ≤ (v : Int) := by omega
  by_cases hlt : dAt ds v < 0
  case neg =>
    go_enter Try.func18, Try.ntmps18
    go_wp2_with fail
    go_returns
    refine ⟨rfl, qb, qo, qc, ?_, .inl rfl, Turned.refl _ _⟩
    rw [if_neg (by omega), if_neg (by omega)]
    exact hM.out
  have hne := hM.out.ne
  obtain ⟨n1, n2, n3, n4, n5, n6⟩ := hne
  have d0 : (w.setCell ⟨bD, v, none⟩ (.int .i64 d)).cell? ⟨bDist, 0, none⟩ = some (.slice (some ⟨bD, 0, none⟩) n n) := (World.cell?_setCell_other w _ _ _ (ne_blk0 (Ne.symm n1))).trans c0
  have d2 : (w.setCell ⟨bD, v, none⟩ (.int .i64 d)).cell? ⟨bQ, 0, none⟩ = some (.slice (some ⟨qb, qo, none⟩) q.length qc) := (World.cell?_setCell_other w _ _ _ (ne_blk0 n4)).trans c2
  have O1 := hidden (hM.out.own.kept (grown_set w bD v (.int .i64 d)) (by simp; exact Ne.symm n5))
  go_enter Try.func18, Try.ntmps18
  have N1 : ((w.setCell ⟨bD, v, none⟩ (.int .i64 d)).alloc (.cells #[.int .i64 (v : Int)] 3)).cell? ⟨w.heap.size, 0, none⟩ = some (.int .i64 (v : Int)) := by
    have h1 := heap_alloc_new (w.setCell ⟨bD, v, none⟩ (.int .i64 d)) (.cells #[.int .i64 (v : Int)] 3)
    rw [World.size_setCell] at h1
    rw [cell_of_row _ _ 0 _ _ _ h1]
    rfl
  have hq0 := heap_setCell_other w ⟨bD, v, none⟩ bQ (.int .i64 d) (Ne.symm n4)
  rw [hM.out.que] at hq0
  have hbox0 := heap_setCell_other w ⟨bD, v, none⟩ bDist (.int .i64 d) n1
  rw [hM.out.box] at hbox0
  have hd0 := heap_setCell_same w bD v _ 3 (.int .i64 d) hM.out.dist
  have hg0 := grown_set w bD v (.int .i64 d)
  have hD0 := hidden (And.intro hq0 (And.intro hbox0 (And.intro hd0 hg0)))
  clear hq0 hbox0 hd0 hg0
  go_wp2_with (
    at_builtin
    refine wpList_append_q rfl _ _ 22 rfl i3 Try.underlying22 hi3 z30 z31 z32 qb qo qc v q.length q rfl rfl (O1.out.kept (World.grownBy_alloc _ _ none) (by simp)) (by have := hq.out; omega) ⟨w.heap.size, 0, none⟩ 1 rfl N1 ?_
    intro g' off' cap' w1 hown1 hgrow1 hloc1
    have hgr := (World.grownBy_alloc (w.setCell ⟨bD, v, none⟩ (.int .i64 d)) (.cells #[.int .i64 (v : Int)] 3) (some qb)).trans hgrow1
    have hq1 : w1.heap[bQ]? = some (.cells #[.slice (some ⟨qb, qo, none⟩) q.length qc] 22 (0, 0)) := (hgr.block bQ (Array.getElem?_eq_some_iff.1 hD0.out.1).1 (by simp; exact n6)).trans hD0.out.1
    have c5 := cell_of_row w1 bQ 0 _ _ _ hq1
    have f5 := frozen_of_row w1 bQ 0 _ _ hq1
    simp only [List.getElem?_toArray, List.getElem?_cons_zero] at c5
    have HGR := hidden (And.intro hgr (And.intro hq1 (And.intro hown1 hloc1)))
    clear hgr hq1 hown1 hgrow1 hloc1)
  go_returns
  obtain ⟨hgr, hq1, hown1, hloc1⟩ := HGR.out
  obtain ⟨hq0, hbox0, hd0, hg0⟩ := hD0.out
  have s0 : (w.setCell ⟨bD, v, none⟩ (.int .i64 d)).heap.size = w.heap.size := World.size_setCell ..
  have lQ := (Array.getElem?_eq_some_iff.1 hM.out.que).1
  have lB := (Array.getElem?_eq_some_iff.1 hM.out.box).1
  have lD := (Array.getElem?_eq_some_iff.1 hM.out.dist).1
  have lq := hM.out.own.lt
  have hloc2 : g' = qb ∨ w.heap.size ≤ g' := by
    rcases hloc1 with h | h
    · exact .inl h
    · right; rw [h]; simp
  have gs := grown_set w1 bQ 0 (Value.slice (some ⟨g', off', none⟩) (q.length + 1) cap')
  refine ⟨rfl, g', off', cap', ?_, hloc2, ?_⟩
  · rw [if_pos hlt, if_pos hlt]
    refine ⟨?_, ?_, by rw [List.length_set]; exact hM.out.len, ?_, hown1.kept gs (by simp; omega), by omega⟩
    · rw [heap_setCell_other w1 _ bDist _ n2, hgr.block bDist (by rw [s0]; exact lB) (by simp; exact n3)]
      exact hbox0
    · rw [heap_setCell_other w1 _ bD _ n4, hgr.block bD (by rw [s0]; exact lD) (by simp; exact n5), hd0]
      simp [List.map_set]
    · rw [heap_setCell_same w1 bQ 0 _ 22 _ hq1]
      simp
  · refine Turned.trans (Turned.trans (Turned.of_grown hg0 _ (fun k hk => by cases hk; simp)) (Turned.of_grown hgr [qb] (fun k hk => by cases hk; simp)) (by simp)) (Turned.of_grown gs [bQ] (fun k hk => by cases hk; simp)) (by simp)

end Go.Proofs.Qxb6612201a
