/-
  WALK: ZZshortestCycle's columns put together (11).
-/
import Derived.Test.Qxb6612201aOpenW
import Derived.Test.Qxb6612201aOrdD
namespace Go.Proofs.Qxb6612201a
open Go.RowKit Go.Shelf
set_option linter.unusedVariables false
set_option linter.unusedSimpArgs false

theorem Try.info37 : (Try.prog.info? 37).map (fun i => (i.zero, i.size, i.bytes)) = some (some (.agg #[.int .i64 0, .int .i64 0, .int .i64 0, .int .i64 0]), 4, 32) := by kernel_rfl
theorem Try.info39 : (Try.prog.info? 39).map (fun i => (i.zero, i.size, i.bytes)) = some (some (.int .i8 0), 1, 1) := by kernel_rfl

theorem make34 (c : Nat) (hc : (c : Int) ≤ 1000000) : ∃ Z0 : Array Value, Z0.size = c * 4 ∧ ∀ W : World, (Instr.makeSlice 34 (.int .i64 (c : Int)) (.int .i64 (c : Int))).run Try.prog W = .ok (.slice (some ⟨W.heap.size, 0, none⟩) c c) (W.alloc (.cells Z0 37)) := by
  obtain ⟨i3, hi3, z30, z31, z32⟩ := info_parts Try.info37
  refine ⟨madeCells #[Value.int .i64 0, .int .i64 0, .int .i64 0, .int .i64 0] (c * 4), size_madeCells _ _, fun W => ?_⟩
  have h := run_make (P := Try.prog) W 34 37 i3 _ Try.underlying34 hi3 z30 .i64 .i64 (c : Int) (c : Int) (by omega) (by omega) (by rw [z32]; omega) (by omega)
  rw [z31, show (Value.agg #[.int .i64 0, .int .i64 0, .int .i64 0, .int .i64 0]).cells = #[.int .i64 0, .int .i64 0, .int .i64 0, .int .i64 0] from rfl, Int.toNat_natCast] at h
  exact h

theorem make38 (c : Nat) (hc : (c : Int) ≤ 1000000) : ∃ Z0 : Array Value, Z0.size = c ∧ ∀ W : World, (Instr.makeSlice 38 (.int .i64 (c : Int)) (.int .i64 (c : Int))).run Try.prog W = .ok (.slice (some ⟨W.heap.size, 0, none⟩) c c) (W.alloc (.cells Z0 39)) := by
  obtain ⟨i3, hi3, z30, z31, z32⟩ := info_parts Try.info39
  refine ⟨madeCells #[Value.int .i8 0] c, size_madeCells _ _, fun W => ?_⟩
  have h := run_make (P := Try.prog) W 38 39 i3 _ Try.underlying38 hi3 z30 .i64 .i64 (c : Int) (c : Int) (by omega) (by omega) (by rw [z32]; omega) (by omega)
  rw [z31, Nat.mul_one, show (Value.int .i8 0).cells = #[.int .i8 0] from rfl, Int.toNat_natCast] at h
  exact h

/-- The operations put together up to k. -/
structure OpsAt (h : Hist) (g m k : Nat) (W1 w : World) : Prop where
  row : ∃ arr : Array Value, w.heap[g]? = some (.cells arr 37 (0, 0)) ∧ arr.size = m * 4
  at_ : ∀ i, i < k → w.cell? ⟨g, i * 4, none⟩ = some (.int .i64 (iAt h.ks i)) ∧ w.cell? ⟨g, i * 4 + 1, none⟩ = some (.int .i64 (iAt h.ts i)) ∧ w.cell? ⟨g, i * 4 + 2, none⟩ = some (.int .i64 (iAt h.los i)) ∧ w.cell? ⟨g, i * 4 + 3, none⟩ = some (.int .i64 (iAt h.his i))
  turned : Turned [g] W1 w

structure OcsAt (h : Hist) (g n k : Nat) (W1 w : World) : Prop where
  row : ∃ arr : Array Value, w.heap[g]? = some (.cells arr 39 (0, 0)) ∧ arr.size = n
  at_ : ∀ i, i < k → w.cell? ⟨g, i, none⟩ = some (.int .i8 (iAt h.ocs i))
  turned : Turned [g] W1 w

theorem cset (w : World) (g o o' : Nat) (x : Value) (h : o' ≠ o) : (w.setCell ⟨g, o, none⟩ x).cell? ⟨g, o', none⟩ = w.cell? ⟨g, o', none⟩ := World.cell?_setCell_other w _ _ _ (fun e => h (by cases e; rfl))

theorem OpsAt.step {h : Hist} {g m i : Nat} {W1 w : World} (H0 : OpsAt h g m i W1 w) (hi : i < m) : OpsAt h g m (i + 1) W1 ((((w.setCell ⟨g, i * 4, none⟩ (.int .i64 (iAt h.ks i))).setCell ⟨g, i * 4 + 1, none⟩ (.int .i64 (iAt h.ts i))).setCell ⟨g, i * 4 + 2, none⟩ (.int .i64 (iAt h.los i))).setCell ⟨g, i * 4 + 3, none⟩ (.int .i64 (iAt h.his i))) := by
  obtain ⟨arr, ha, hs⟩ := H0.row
  have ex : ∀ j, j < 4 → ∃ u, w.cell? ⟨g, i * 4 + j, none⟩ = some u := fun j hj => by
    have hlj : i * 4 + j < arr.size := by omega
    exact ⟨arr[i * 4 + j], (cell_of_row w g (i * 4 + j) _ _ _ ha).trans (Array.getElem?_eq_getElem hlj)⟩
  obtain ⟨d0, hd0⟩ := ex 0 (by omega)
  obtain ⟨d1, hd1⟩ := ex 1 (by omega)
  obtain ⟨d2, hd2⟩ := ex 2 (by omega)
  obtain ⟨d3, hd3⟩ := ex 3 (by omega)
  rw [Nat.add_zero] at hd0
  refine ⟨⟨_, heap_setCell_same _ g _ _ 37 _ (heap_setCell_same _ g _ _ 37 _ (heap_setCell_same _ g _ _ 37 _ (heap_setCell_same w g _ _ 37 _ ha))), by simp [hs]⟩, fun j hj => ?_, ?_⟩
  · by_cases e : j = i
    · subst e
      refine ⟨?_, ?_, ?_, ?_⟩
      · rw [cset _ _ _ _ _ (by omega), cset _ _ _ _ _ (by omega), cset _ _ _ _ _ (by omega)]
        exact World.cell?_setCell_same w _ _ hd0
      · rw [cset _ _ _ _ _ (by omega), cset _ _ _ _ _ (by omega)]
        exact World.cell?_setCell_same _ _ _ ((cset _ _ _ _ _ (by omega)).trans hd1)
      · rw [cset _ _ _ _ _ (by omega)]
        exact World.cell?_setCell_same _ _ _ ((cset _ _ _ _ _ (by omega)).trans ((cset _ _ _ _ _ (by omega)).trans hd2))
      · exact World.cell?_setCell_same _ _ _ ((cset _ _ _ _ _ (by omega)).trans ((cset _ _ _ _ _ (by omega)).trans ((cset _ _ _ _ _ (by omega)).trans hd3)))
    · obtain ⟨q0, q1, q2, q3⟩ := H0.at_ j (by omega)
      have key : ∀ o u, o ≠ i * 4 → o ≠ i * 4 + 1 → o ≠ i * 4 + 2 → o ≠ i * 4 + 3 → w.cell? ⟨g, o, none⟩ = some u → ((((w.setCell ⟨g, i * 4, none⟩ (.int .i64 (iAt h.ks i))).setCell ⟨g, i * 4 + 1, none⟩ (.int .i64 (iAt h.ts i))).setCell ⟨g, i * 4 + 2, none⟩ (.int .i64 (iAt h.los i))).setCell ⟨g, i * 4 + 3, none⟩ (.int .i64 (iAt h.his i))).cell? ⟨g, o, none⟩ = some u := fun o u n0 n1 n2 n3 hu => by
        rw [cset _ _ _ _ _ n3, cset _ _ _ _ _ n2, cset _ _ _ _ _ n1, cset _ _ _ _ _ n0]
        exact hu
      exact ⟨key _ _ (by omega) (by omega) (by omega) (by omega) q0, key _ _ (by omega) (by omega) (by omega) (by omega) q1, key _ _ (by omega) (by omega) (by omega) (by omega) q2, key _ _ (by omega) (by omega) (by omega) (by omega) q3⟩
  · have st : ∀ (w : World) (o : Nat) (x : Value), Turned [g] w (w.setCell ⟨g, o, none⟩ x) := fun w o x => Turned.of_grown (grown_set w g o x) _ (fun k hk => by cases hk; simp)
    exact ((((H0.turned.trans (st _ _ _) (by simp)).trans (st _ _ _) (by simp)).trans (st _ _ _) (by simp)).trans (st _ _ _) (by simp))

theorem OpsAt.drew {h : Hist} {g m i : Nat} {W1 w : World} (H0 : OpsAt h g m i W1 w) : OpsAt h g m i W1 w.drew := ⟨H0.row, H0.at_, Turned.drew H0.turned⟩

theorem Turned.old {S : List Nat} {w w' : World} (h : Turned S w w') (hS : ∀ k ∈ S, w.heap.size ≤ k) : Turned [] w w' := ⟨h.os, h.tape, h.output, h.size, fun k hk _ => h.block k hk (fun e => by have := hS k e; omega)⟩

theorem OcsAt.step {h : Hist} {g n i : Nat} {W1 w : World} (H0 : OcsAt h g n i W1 w) (hi : i < n) : OcsAt h g n (i + 1) W1 (w.setCell ⟨g, i, none⟩ (.int .i8 (iAt h.ocs i))) := by
  obtain ⟨arr, ha, hs⟩ := H0.row
  have hd0 := (cell_of_row w g i _ _ _ ha).trans (Array.getElem?_eq_getElem (show i < arr.size by omega))
  refine ⟨⟨_, heap_setCell_same w g _ _ 39 _ ha, by simp [hs]⟩, fun j hj => ?_, H0.turned.trans (Turned.of_grown (grown_set w g i _) [g] (fun k hk => by cases hk; simp)) (by simp)⟩
  by_cases e : j = i
  · subst e
    exact World.cell?_setCell_same w _ _ hd0
  · rw [cset _ _ _ _ _ e]
    exact H0.at_ j (by omega)

theorem Row.turned {w w' : World} {q : IntKind} {a : Option Addr} {g n : Nat} {xs : List Int} {S : List Nat} (h : Row w q a g n xs) (ht : Turned S w w') (hne : ∀ k, k < w.heap.size → k ∉ S) : Row w' q a g n xs :=
  ⟨h.1, fun hn => by
    obtain ⟨h1, h2, h3⟩ := h.2 hn
    exact ⟨h1, Nat.lt_of_lt_of_le h2 ht.size, fun j hj => ht.cell (h3 j hj) (hne g h2)⟩⟩

set_option maxHeartbeats 25600000 in
set_option maxRecDepth 1000000 in
theorem zz_any (h : Hist) (n items s m gk gt gl gh go : Nat) (ak at' al ah ao ta : Option Addr) (ck ct cl ch co tc : Nat) (a6 a7 : Option Addr) (l6 q6 l7 q7 : Nat) (w : World) (hn : (n : Int) ≤ 1024) (hm : (m : Int) ≤ 1024)
    (hk : Hid (Row w .i64 ak gk m h.ks)) (ht : Hid (Row w .i64 at' gt m h.ts)) (hl : Hid (Row w .i64 al gl m h.los)) (hh : Hid (Row w .i64 ah gh m h.his)) (ho : Hid (Row w .i8 ao go n h.ocs)) (P : Ending → World → Prop)
    (hcall : Hid (∀ (w2 : World) (gOps gO : Nat), Turned [] w w2 → (gOps < w2.heap.size ∧ ∀ i, i < m → w2.cell? ⟨gOps, i * 4, none⟩ = some (.int .i64 (iAt h.ks i)) ∧ w2.cell? ⟨gOps, i * 4 + 1, none⟩ = some (.int .i64 (iAt h.ts i)) ∧ w2.cell? ⟨gOps, i * 4 + 2, none⟩ = some (.int .i64 (iAt h.los i)) ∧ w2.cell? ⟨gOps, i * 4 + 3, none⟩ = some (.int .i64 (iAt h.his i))) → (gO < w2.heap.size ∧ ∀ i, i < n → w2.cell? ⟨gO, i, none⟩ = some (.int .i8 (iAt h.ocs i))) →
      Calls Try.prog 14 #[.agg #[.slice (some ⟨gOps, 0, none⟩) m m, .slice ta n tc, .slice (some ⟨gO, 0, none⟩) n n, (.slice a6 l6 q6), (.slice a7 l7 q7), .int .i64 (items : Int)], .int .i64 (s : Int)] w2 (fun e w' => (∃ v, e = .returned v) ∧ P e w'))) :
    Calls Try.prog 11 #[.slice ak m ck, .slice at' m ct, .slice al m cl, .slice ah m ch, .slice ta n tc, .slice ao n co, (.slice a6 l6 q6), (.slice a7 l7 q7), .int .i64 (items : Int), .int .i64 (s : Int)] w P := by
  obtain ⟨Z1, hZ1, hmk1⟩ := make34 m (by omega)
  go_enter Try.func11, Try.ntmps11
  go_wp2_with fail
  obtain ⟨W1, hW1⟩ : ∃ W1, w.alloc (.cells Z1 37) = W1 := ⟨_, rfl⟩
  have t1 : Turned [] w W1 := by rw [← hW1]; exact Turned.of_grown (World.grownBy_alloc _ _ none) [] (fun k hk => by cases hk)
  have f1 : W1.heap[w.heap.size]? = some (.cells Z1 37 (0, 0)) := by rw [← hW1]; exact heap_alloc_new w _
  have s1 : Hid (W1.heap.size = w.heap.size + 1) := hidden (by rw [← hW1]; simp)
  rw [hW1]
  clear hW1 hmk1
  have O0 : Hid (OpsAt h w.heap.size m 0 W1 W1) := hidden ⟨⟨Z1, f1, hZ1⟩, fun i hi => by omega, Turned.refl _ _⟩
  have T1 := hidden t1
  clear f1 t1 hZ1
  go_loopw [30] (fun v wr => ∃ i : Nat, v = .int .i64 i ∧ i ≤ m ∧ Hid (OpsAt h w.heap.size m i W1 wr)) (fun v _ => m - (intOf v).toNat)
  case atStart => exact ⟨0, rfl, Nat.zero_le _, O0⟩
  case round =>
    clear O0
    obtain ⟨i, rfl, hi, hO⟩ := hrel
    by_cases hlt : (i : Int) < m
    · obtain ⟨rfl, lk, ek⟩ := (hk.out.turned T1.out (by simp)).2 (by omega)
      obtain ⟨rfl, lt, et⟩ := (ht.out.turned T1.out (by simp)).2 (by omega)
      obtain ⟨rfl, ll, el⟩ := (hl.out.turned T1.out (by simp)).2 (by omega)
      obtain ⟨rfl, lh, eh⟩ := (hh.out.turned T1.out (by simp)).2 (by omega)
      have nk := (hk.out.2 (by omega)).2.1
      have nt := (ht.out.2 (by omega)).2.1
      have nl := (hl.out.2 (by omega)).2.1
      have nh := (hh.out.2 (by omega)).2.1
      have KEEP : Hid (wr.drew.cell? ⟨gk, i, none⟩ = some (.int .i64 (iAt h.ks i)) ∧ wr.drew.cell? ⟨gt, i, none⟩ = some (.int .i64 (iAt h.ts i)) ∧ wr.drew.cell? ⟨gl, i, none⟩ = some (.int .i64 (iAt h.los i)) ∧ wr.drew.cell? ⟨gh, i, none⟩ = some (.int .i64 (iAt h.his i))) := hidden ⟨hO.out.turned.cell (ek i (by omega)) (by simp; omega), hO.out.turned.cell (et i (by omega)) (by simp; omega), hO.out.turned.cell (el i (by omega)) (by simp; omega), hO.out.turned.cell (eh i (by omega)) (by simp; omega)⟩
      obtain ⟨arr, ha, hs⟩ := hO.out.row
      have HA := hidden ha
      have HSZ := hidden hs
      have b0 : (0 : Int) ≤ i := by omega
      clear lk ek lt et ll el lh eh nk nt nl nh ha hs
      go_wp2_with fail
      refine wp_region_noPanic ?_
      refine wp_region_D 20 (fun _ => True) (fun w' => w'.cell? ⟨gk, i, none⟩ = some (.int .i64 (iAt h.ks i)) ∧ w'.cell? ⟨gt, i, none⟩ = some (.int .i64 (iAt h.ts i)) ∧ w'.cell? ⟨gl, i, none⟩ = some (.int .i64 (iAt h.los i)) ∧ w'.cell? ⟨gh, i, none⟩ = some (.int .i64 (iAt h.his i))) (by kernel_rfl) ⟨trivial, KEEP.out⟩ (fun hHeld => ?_)
      refine wpAnyD_take (v := ?_) 0 rfl (by kernel_rfl) (by kernel_rfl) (by kernel_rfl) rfl (by kernel_rfl) (by kernel_rfl) (fun _ _ _ h => h) (Or.inl ⟨by rfl, ?_⟩) hHeld ?_
      rotate_left
      · (intro w hSw; (try dsimp only at hSw); go_simp; try (with_reducible rfl))
      try simp only [Act.put, List.getElem_toArray, List.getElem_cons_succ, List.getElem_cons_zero, List.setIfInBounds_toArray, List.set_cons_zero, List.set_cons_succ]
      refine wpAnyD_take (v := ?_) 1 rfl (by kernel_rfl) (by kernel_rfl) (by kernel_rfl) rfl (by kernel_rfl) (by kernel_rfl) (fun _ _ _ h => h) (Or.inl ⟨by rfl, ?_⟩) hHeld ?_
      rotate_left
      · (intro w hSw; (try dsimp only at hSw); go_simp; try (with_reducible rfl))
      try simp only [Act.put, List.getElem_toArray, List.getElem_cons_succ, List.getElem_cons_zero, List.setIfInBounds_toArray, List.set_cons_zero, List.set_cons_succ]
      refine wpAnyD_take (v := ?_) 2 rfl (by kernel_rfl) (by kernel_rfl) (by kernel_rfl) rfl (by kernel_rfl) (by kernel_rfl) (fun _ _ _ h => h) (Or.inl ⟨by rfl, ?_⟩) hHeld ?_
      rotate_left
      · (intro w hSw; (try dsimp only at hSw); go_simp; try (with_reducible rfl))
      try simp only [Act.put, List.getElem_toArray, List.getElem_cons_succ, List.getElem_cons_zero, List.setIfInBounds_toArray, List.set_cons_zero, List.set_cons_succ]
      refine wpAnyD_take (v := ?_) 3 rfl (by kernel_rfl) (by kernel_rfl) (by kernel_rfl) rfl (by kernel_rfl) (by kernel_rfl) (fun _ _ _ h => h) (Or.inl ⟨by rfl, ?_⟩) hHeld ?_
      rotate_left
      · (intro w hSw; (try dsimp only at hSw); go_simp; try (with_reducible rfl))
      try simp only [Act.put, List.getElem_toArray, List.getElem_cons_succ, List.getElem_cons_zero, List.setIfInBounds_toArray, List.set_cons_zero, List.set_cons_succ]
      refine wpAnyD_take (v := ?_) 4 rfl (by kernel_rfl) (by kernel_rfl) (by kernel_rfl) rfl (by kernel_rfl) (by kernel_rfl) (fun _ _ _ h => h) (Or.inl ⟨by rfl, ?_⟩) hHeld ?_
      rotate_left
      · (intro w hSw; (try dsimp only at hSw); go_simp; try (with_reducible rfl))
      try simp only [Act.put, List.getElem_toArray, List.getElem_cons_succ, List.getElem_cons_zero, List.setIfInBounds_toArray, List.set_cons_zero, List.set_cons_succ]
      refine wpAnyD_take (v := ?_) 5 rfl (by kernel_rfl) (by kernel_rfl) (by kernel_rfl) rfl (by kernel_rfl) (by kernel_rfl) (fun _ _ _ h => h) (Or.inl ⟨by rfl, ?_⟩) hHeld ?_
      rotate_left
      · (intro w hSw; (try dsimp only at hSw); go_simp; try (with_reducible rfl))
      try simp only [Act.put, List.getElem_toArray, List.getElem_cons_succ, List.getElem_cons_zero, List.setIfInBounds_toArray, List.set_cons_zero, List.set_cons_succ]
      refine wpAnyD_take (v := ?_) 6 rfl (by kernel_rfl) (by kernel_rfl) (by kernel_rfl) rfl (by kernel_rfl) (by kernel_rfl) (fun _ _ _ h => h) (Or.inl ⟨by rfl, ?_⟩) hHeld ?_
      rotate_left
      · (intro w hSw; (try dsimp only at hSw); go_simp; try (with_reducible rfl))
      try simp only [Act.put, List.getElem_toArray, List.getElem_cons_succ, List.getElem_cons_zero, List.setIfInBounds_toArray, List.set_cons_zero, List.set_cons_succ]
      refine wpAnyD_take (v := ?_) 7 rfl (by kernel_rfl) (by kernel_rfl) (by kernel_rfl) rfl (by kernel_rfl) (by kernel_rfl) (fun _ _ _ h => h) (Or.inl ⟨by rfl, ?_⟩) hHeld ?_
      rotate_left
      · (intro w hSw; (try dsimp only at hSw); go_simp; try (with_reducible rfl))
      try simp only [Act.put, List.getElem_toArray, List.getElem_cons_succ, List.getElem_cons_zero, List.setIfInBounds_toArray, List.set_cons_zero, List.set_cons_succ]
      refine wpAnyD_take (v := ?_) 8 rfl (by kernel_rfl) (by kernel_rfl) (by kernel_rfl) rfl (by kernel_rfl) (by kernel_rfl) (fun _ _ _ h => h) (Or.inl ⟨by rfl, ?_⟩) hHeld ?_
      rotate_left
      · (intro w hSw; (try dsimp only at hSw); go_simp; try (with_reducible rfl))
      try simp only [Act.put, List.getElem_toArray, List.getElem_cons_succ, List.getElem_cons_zero, List.setIfInBounds_toArray, List.set_cons_zero, List.set_cons_succ]
      refine wpAnyD_take (v := ?_) 9 rfl (by kernel_rfl) (by kernel_rfl) (by kernel_rfl) rfl (by kernel_rfl) (by kernel_rfl) (fun _ _ _ h => h) (Or.inl ⟨by rfl, ?_⟩) hHeld ?_
      rotate_left
      · (intro w hSw; (try dsimp only at hSw); go_simp; try (with_reducible rfl))
      try simp only [Act.put, List.getElem_toArray, List.getElem_cons_succ, List.getElem_cons_zero, List.setIfInBounds_toArray, List.set_cons_zero, List.set_cons_succ]
      refine wpAnyD_take (v := ?_) 10 rfl (by kernel_rfl) (by kernel_rfl) (by kernel_rfl) rfl (by kernel_rfl) (by kernel_rfl) (fun _ _ _ h => h) (Or.inl ⟨by rfl, ?_⟩) hHeld ?_
      rotate_left
      · (intro w hSw; (try dsimp only at hSw); go_simp; try (with_reducible rfl))
      try simp only [Act.put, List.getElem_toArray, List.getElem_cons_succ, List.getElem_cons_zero, List.setIfInBounds_toArray, List.set_cons_zero, List.set_cons_succ]
      refine wpAnyD_take (v := ?_) 11 rfl (by kernel_rfl) (by kernel_rfl) (by kernel_rfl) rfl (by kernel_rfl) (by kernel_rfl) (fun _ _ _ h => h) (Or.inl ⟨by rfl, ?_⟩) hHeld ?_
      rotate_left
      · (intro w hSw; (try dsimp only at hSw); go_simp; try (with_reducible rfl))
      try simp only [Act.put, List.getElem_toArray, List.getElem_cons_succ, List.getElem_cons_zero, List.setIfInBounds_toArray, List.set_cons_zero, List.set_cons_succ]
      refine wpAnyD_take (v := ?_) 12 rfl (by kernel_rfl) (by kernel_rfl) (by kernel_rfl) rfl (by kernel_rfl) (by kernel_rfl) (fun _ _ _ h => h) (Or.inl ⟨by rfl, ?_⟩) hHeld ?_
      rotate_left
      · (intro w hSw; (try dsimp only at hSw); go_simp; try (with_reducible rfl))
      try simp only [Act.put, List.getElem_toArray, List.getElem_cons_succ, List.getElem_cons_zero, List.setIfInBounds_toArray, List.set_cons_zero, List.set_cons_succ]
      refine wpAnyD_take (v := ?_) 13 rfl (by kernel_rfl) (by kernel_rfl) (by kernel_rfl) rfl (by kernel_rfl) (by kernel_rfl) (fun _ _ _ h => h) (Or.inl ⟨by rfl, ?_⟩) hHeld ?_
      rotate_left
      · (intro w hSw; (try dsimp only at hSw); go_simp; try (with_reducible rfl))
      try simp only [Act.put, List.getElem_toArray, List.getElem_cons_succ, List.getElem_cons_zero, List.setIfInBounds_toArray, List.set_cons_zero, List.set_cons_succ]
      refine wpAnyD_take (v := ?_) 14 rfl (by kernel_rfl) (by kernel_rfl) (by kernel_rfl) rfl (by kernel_rfl) (by kernel_rfl) (fun _ _ _ h => h) (Or.inl ⟨by rfl, ?_⟩) hHeld ?_
      rotate_left
      · (intro w hSw; (try dsimp only at hSw); go_simp; try (with_reducible rfl))
      try simp only [Act.put, List.getElem_toArray, List.getElem_cons_succ, List.getElem_cons_zero, List.setIfInBounds_toArray, List.set_cons_zero, List.set_cons_succ]
      refine wpAnyD_take (v := ?_) 15 rfl (by kernel_rfl) (by kernel_rfl) (by kernel_rfl) rfl (by kernel_rfl) (by kernel_rfl) (fun _ _ _ h => h) (Or.inl ⟨by rfl, ?_⟩) hHeld ?_
      rotate_left
      · (intro w hSw; (try dsimp only at hSw); go_simp; try (with_reducible rfl))
      try simp only [Act.put, List.getElem_toArray, List.getElem_cons_succ, List.getElem_cons_zero, List.setIfInBounds_toArray, List.set_cons_zero, List.set_cons_succ]
      refine wpAnyD_take (v := ?_) 16 rfl (by kernel_rfl) (by kernel_rfl) (by kernel_rfl) rfl (by kernel_rfl) (by kernel_rfl) (fun _ _ _ h => h) (Or.inl ⟨by rfl, ?_⟩) hHeld ?_
      rotate_left
      · (intro w hSw; (try dsimp only at hSw); go_simp; try (with_reducible rfl))
      try simp only [Act.put, List.getElem_toArray, List.getElem_cons_succ, List.getElem_cons_zero, List.setIfInBounds_toArray, List.set_cons_zero, List.set_cons_succ]
      refine wpAnyD_take (v := ?_) 17 rfl (by kernel_rfl) (by kernel_rfl) (by kernel_rfl) rfl (by kernel_rfl) (by kernel_rfl) (fun _ _ _ h => h) (Or.inl ⟨by rfl, ?_⟩) hHeld ?_
      rotate_left
      · (intro w hSw; (try dsimp only at hSw); go_simp; try (with_reducible rfl))
      try simp only [Act.put, List.getElem_toArray, List.getElem_cons_succ, List.getElem_cons_zero, List.setIfInBounds_toArray, List.set_cons_zero, List.set_cons_succ]
      refine wpAnyD_take (v := ?_) 18 rfl (by kernel_rfl) (by kernel_rfl) (by kernel_rfl) rfl (by kernel_rfl) (by kernel_rfl) (fun _ _ _ h => h) (Or.inl ⟨by rfl, ?_⟩) hHeld ?_
      rotate_left
      · (intro w hSw; (try dsimp only at hSw); go_simp; try (with_reducible rfl))
      try simp only [Act.put, List.getElem_toArray, List.getElem_cons_succ, List.getElem_cons_zero, List.setIfInBounds_toArray, List.set_cons_zero, List.set_cons_succ]
      refine wpAnyD_take (v := ?_) 19 rfl (by kernel_rfl) (by kernel_rfl) (by kernel_rfl) rfl (by kernel_rfl) (by kernel_rfl) (fun _ _ _ h => h) (Or.inl ⟨by rfl, ?_⟩) hHeld ?_
      rotate_left
      · (intro w hSw; (try dsimp only at hSw); go_simp; try (with_reducible rfl))
      try simp only [Act.put, List.getElem_toArray, List.getElem_cons_succ, List.getElem_cons_zero, List.setIfInBounds_toArray, List.set_cons_zero, List.set_cons_succ]
      have ex : ∀ j, j < 4 → ∃ u, wr.cell? ⟨w.heap.size, i * 4 + j, none⟩ = some u := fun j hj => by
        have hlj : i * 4 + j < arr.size := by have := HSZ.out; omega
        exact ⟨arr[i * 4 + j], (cell_of_row wr w.heap.size (i * 4 + j) _ _ _ HA.out).trans (Array.getElem?_eq_getElem hlj)⟩
      obtain ⟨d0, hd0⟩ := ex 0 (by omega)
      obtain ⟨d1, hd1⟩ := ex 1 (by omega)
      obtain ⟨d2, hd2⟩ := ex 2 (by omega)
      obtain ⟨d3, hd3⟩ := ex 3 (by omega)
      have fz : ∀ j, wr.frozen? ⟨w.heap.size, j, none⟩ = false := fun j => frozen_of_row wr w.heap.size j _ _ HA.out
      rw [Nat.add_zero] at hd0
      clear ex
      refine wpAnyD_one 20 (by kernel_rfl) rfl (fun K hK => ?_)
      go_simp
      have NEXT := hidden (hO.out.step (by omega)).drew
      refine hK.out _ _ trivial ?_ (fun h1 h0 => ?_)
      · (intro h; exact absurd (h.symm.trans (by kernel_rfl)) Bool.false_ne_true)
      clear hK K h0 hHeld
      try simp only [Act.put, List.getElem_toArray, List.getElem_cons_succ, List.getElem_cons_zero, List.setIfInBounds_toArray, List.set_cons_zero, List.set_cons_succ]
      refine wpAnyD_done (by kernel_rfl) ?_ _
      refine NoPanic.normal ?_
      clear hd0 hd1 hd2 hd3 fz KEEP HA HSZ hO
      obtain ⟨wn, hwn⟩ : ∃ wn, ((((wr.setCell ⟨w.heap.size, i * 4, none⟩ (.int .i64 (iAt h.ks i))).setCell ⟨w.heap.size, i * 4 + 1, none⟩ (.int .i64 (iAt h.ts i))).setCell ⟨w.heap.size, i * 4 + 2, none⟩ (.int .i64 (iAt h.los i))).setCell ⟨w.heap.size, i * 4 + 3, none⟩ (.int .i64 (iAt h.his i))).drew = wn := ⟨_, rfl⟩
      rw [hwn] at NEXT
      rw [hwn]
      clear hwn
      go_wp2_with fail
      exact ⟨⟨i + 1, by go_num, by omega, NEXT⟩, by simp [intOf]; omega⟩
    · have him : i = m := by omega
      subst him
      obtain ⟨Z2, hZ2, hmk2⟩ := make38 n (by omega)
      go_wp2_with fail
      obtain ⟨W2, hW2⟩ : ∃ W2, wr.alloc (.cells Z2 39) = W2 := ⟨_, rfl⟩
      have t2 : Turned [] wr W2 := by rw [← hW2]; exact Turned.of_grown (World.grownBy_alloc _ _ none) [] (fun k hk => by cases hk)
      have f2 : W2.heap[wr.heap.size]? = some (.cells Z2 39 (0, 0)) := by rw [← hW2]; exact heap_alloc_new wr _
      have s2 : Hid (W2.heap.size = wr.heap.size + 1) := hidden (by rw [← hW2]; simp)
      rw [hW2]
      clear hW2 hmk2
      obtain ⟨g2, hg2⟩ : ∃ g2, wr.heap.size = g2 := ⟨_, rfl⟩
      rw [hg2] at f2 s2 ⊢
      have O2 : Hid (OpsAt h w.heap.size i i W1 W2) := hidden (by
        obtain ⟨arr, ha, hs⟩ := hO.out.row
        refine ⟨⟨arr, t2.keep ha (by simp), hs⟩, fun j hj => ?_, hO.out.turned.trans t2 (by simp)⟩
        obtain ⟨q0, q1, q2, q3⟩ := hO.out.at_ j hj
        exact ⟨t2.cell q0 (by simp), t2.cell q1 (by simp), t2.cell q2 (by simp), t2.cell q3 (by simp)⟩)
      have P0 : Hid (OcsAt h g2 n 0 W2 W2) := hidden ⟨⟨Z2, f2, hZ2⟩, fun i hi => by omega, Turned.refl _ _⟩
      have T2 : Hid (Turned [w.heap.size] w W2 ∧ w.heap.size < g2 ∧ g2 < W2.heap.size) := hidden ⟨(T1.out.wide.trans hO.out.turned (by simp)).trans t2 (by simp), by have := hO.out.turned.size; have := s1.out; omega, by have := s2.out; omega⟩
      clear f2 t2 hZ2 hO hg2 s1 s2 T1
      go_loopw [59] (fun v wx => ∃ k : Nat, v = .int .i64 k ∧ k ≤ n ∧ Hid (OcsAt h g2 n k W2 wx)) (fun v _ => n - (intOf v).toNat)
      case atStart => exact ⟨0, rfl, Nat.zero_le _, P0⟩
      case round =>
        clear P0
        obtain ⟨k, rfl, hk', hO⟩ := hrel
        have TW : Hid (Turned [w.heap.size, g2] w wr) := hidden (Turned.trans (S := [w.heap.size, g2]) ⟨T2.out.1.os, T2.out.1.tape, T2.out.1.output, T2.out.1.size, fun q hq hne => T2.out.1.block q hq (by simp at hne ⊢; exact hne.1)⟩ hO.out.turned (by simp))
        by_cases hlt2 : (k : Int) < n
        · obtain ⟨rfl, lo', eo⟩ := (ho.out.turned TW.out (by simp; have := T2.out; omega)).2 (by omega)
          have c1 := eo k (by omega)
          obtain ⟨arr, ha, hs⟩ := hO.out.row
          obtain ⟨d2, c2⟩ : ∃ d2, wr.cell? ⟨g2, k, none⟩ = some d2 := ⟨_, (cell_of_row wr g2 k _ _ _ ha).trans (Array.getElem?_eq_getElem (show k < arr.size by omega))⟩
          have f2 := frozen_of_row wr g2 k _ _ ha
          have b0 : (0 : Int) ≤ k := by omega
          have NEXT := hidden (hO.out.step (by omega))
          clear ha hs lo' eo hO
          go_wp2_with fail
          exact ⟨⟨k + 1, by go_num, by omega, NEXT⟩, by simp [intOf]; omega⟩
        · have hkn : k = n := by omega
          subst hkn
          go_wp2_with fail
          refine (hcall.out wr w.heap.size g2 (TW.out.old (by simp; have := T2.out; omega)) ⟨?_, fun j hj => ?_⟩ ⟨?_, hO.out.at_⟩).mono ?_
          · have := T2.out; have := hO.out.turned.size; omega
          · obtain ⟨q0, q1, q2, q3⟩ := O2.out.at_ j hj
            have hne : w.heap.size ∉ [g2] := by simp; have := T2.out; omega
            exact ⟨hO.out.turned.cell q0 hne, hO.out.turned.cell q1 hne, hO.out.turned.cell q2 hne, hO.out.turned.cell q3 hne⟩
          · have := T2.out; have := hO.out.turned.size; omega
          rintro e w9 ⟨⟨v9, rfl⟩, h9⟩
          go_wp2_with fail
          exact h9

end Go.Proofs.Qxb6612201a
