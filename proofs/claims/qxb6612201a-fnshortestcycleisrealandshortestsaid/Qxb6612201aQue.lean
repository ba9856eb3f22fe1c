/-
  LAWS: a slice of ints that was cut at its front, and an append onto it.
-/
import Derived.Test.Qxb6612201aTreeW
import Derived.Maps.AppendAt
namespace Go.Proofs.Qxb6612201a
open Go.RowKit
set_option linter.unusedVariables false
set_option linter.unusedSimpArgs false

/-- The slice value (g, off, length of q, cap) holds q; what lies behind it, up to cap, is its own. -/
def OwnsQ (w : World) (g off cap : Nat) (q : List Nat) : Prop :=
  ∃ cur : Array Value, w.heap[g]? = some (.cells cur 3 (0, 0)) ∧ q.length ≤ cap ∧ cap ≤ maxLen ∧ off + cap ≤ cur.size ∧ (cur.toList.drop off).take q.length = q.map (fun x : Nat => Value.int .i64 (x : Int))

theorem OwnsQ.kept {w w' : World} {g off cap : Nat} {q : List Nat} {r : Option Nat} (h : OwnsQ w g off cap q) (hg : w.grownBy w' r) (hne : some g ≠ r) : OwnsQ w' g off cap q := by
  obtain ⟨cur, h1, h2⟩ := h
  exact ⟨cur, (hg.block g (Array.getElem?_eq_some_iff.1 h1).1 hne).trans h1, h2⟩

theorem OwnsQ.lt {w : World} {g off cap : Nat} {q : List Nat} (h : OwnsQ w g off cap q) : g < w.heap.size := by
  obtain ⟨cur, h1, h2⟩ := h
  exact (Array.getElem?_eq_some_iff.1 h1).1

theorem OwnsQ.cell {w : World} {g off cap : Nat} {q : List Nat} (h : OwnsQ w g off cap q) {j : Nat} (hj : j < q.length) : w.cell? ⟨g, off + j, none⟩ = some (.int .i64 ((q[j] : Nat) : Int)) := by
  obtain ⟨cur, h1, h2, h3, h4, h5⟩ := h
  have h6 : ((cur.toList.drop off).take q.length)[j]? = some (.int .i64 ((q[j] : Nat) : Int)) := by rw [h5]; simp [hj]
  rw [List.getElem?_take, if_pos hj, List.getElem?_drop] at h6
  rw [cell_of_row w g (off + j) _ _ _ h1]
  simpa using h6

/-- The front goes. -/
theorem OwnsQ.pop {w : World} {g off cap : Nat} {u : Nat} {q : List Nat} (h : OwnsQ w g off cap (u :: q)) : OwnsQ w g (off + 1) (cap - 1) q := by
  obtain ⟨cur, h1, h2, h3, h4, h5⟩ := h
  simp only [List.length_cons] at h2 h5
  refine ⟨cur, h1, by omega, by omega, by omega, ?_⟩
  have e := congrArg (List.drop 1) h5
  rw [List.drop_take, List.drop_drop] at e
  simpa using e

theorem run_append_q {P : Program} (w : World) (t ty : TypeId) (i : TypeInfo) (ht : P.underlying t = some (.slice 3)) (hi : P.info? 3 = some i) (hz : i.zero = some (.int .i64 0)) (hsize : i.size = 1) (hby : i.bytes = 8)
    (g off cap x : Nat) (q : List Nat) (hq : OwnsQ w g off cap q) (hl : q.length ≤ 1000000) (a : Addr) (c : Nat) (hnews : w.cell? a = some (.int .i64 (x : Int))) :
    ∃ g' off' cap' w', (Builtin.append_ #[t, t] ty #[.slice (some ⟨g, off, none⟩) q.length cap, .slice (some a) 1 c]).run P w = .ok (.slice (some ⟨g', off', none⟩) (q.length + 1) cap') w' ∧ OwnsQ w' g' off' cap' (q ++ [x]) ∧ w.grownBy w' (some g) ∧ (g' = g ∨ g' = w.heap.size) := by
  obtain ⟨cur, h1, h2, h3, h4, h5⟩ := hq
  have ha0 : a.add 0 = a := by unfold Addr.add; split <;> simp_all
  have hn : ∀ j u, [Value.int .i64 (x : Int)][j]? = some u → w.cell? (a.add j) = some u := by
    intro j u hj
    cases j with
    | zero => simp at hj; subst hj; rw [ha0]; exact hnews
    | succ j => simp at hj
  by_cases hroom : q.length + 1 ≤ cap
  · have hf := run_firstCells_some (P := P) w i.size 1 a 1 c [Value.int .i64 (x : Int)] (by simp [hsize]) hn
    have hst := run_storeCells_at P g (off + q.length) 3 [Value.int .i64 (x : Int)] 0 cur w h1 (by simp; omega) (by simp [Value.oneCell'])
    simp only [Nat.add_zero] at hst
    have hadd : (⟨g, off, none⟩ : Addr).add (q.length * i.size) = ⟨g, off + q.length, none⟩ := by rw [hsize, Nat.mul_one]; unfold Addr.add; split <;> simp_all
    refine ⟨g, off, cap, w.setRow g (cur.toList.take (off + q.length) ++ [Value.int .i64 (x : Int)] ++ cur.toList.drop (off + q.length + 1)).toArray, by simp [Builtin.append_, run_underlying ht, sizeOf, typeInfo, hi, Builtin.lenOf, hroom, hf, hadd, hst], ?_, ⟨rfl, rfl, rfl, by simp, fun k _ hk => setRow_other w g k _ (fun e => hk (by simp [e]))⟩, .inl rfl⟩
    refine ⟨_, setRow_heap w g cur _ 3 _ h1, by simpa using hroom, h3, ?_, ?_⟩
    · simp only [List.size_toArray, List.length_append, List.length_take, List.length_drop, Array.length_toList, List.length_cons, List.length_nil]
      omega
    · rw [List.length_append, List.length_cons, List.length_nil, List.map_append, ← h5]
      simp only [Nat.zero_add, List.map_cons, List.map_nil]
      rw [List.append_assoc, List.drop_append_of_le_length (by simp; omega), List.drop_take]
      rw [show off + q.length - off = q.length by omega]
      rw [← List.append_assoc, List.take_append_of_le_length (by simp; omega), List.take_of_length_le (by simp; omega)]
  · have hgc := grownCap_ge w (q.length + 1) cap 3
    have hr := run_append_grow (P := P) w t ty 3 i _ ht hi hz ⟨g, off, none⟩ q.length cap (q.map fun x : Nat => Value.int .i64 (x : Int)) (by simp [hsize]) (fun j v hj => by
        have h6 : ((cur.toList.drop off).take q.length)[j]? = some v := by rw [h5]; exact hj
        have hjl : j < q.length := by have := (List.getElem?_eq_some_iff.1 hj).1; simpa using this
        rw [List.getElem?_take, if_pos hjl, List.getElem?_drop] at h6
        have hadd : (⟨g, off, none⟩ : Addr).add j = ⟨g, off + j, none⟩ := by unfold Addr.add; split <;> simp_all
        rw [hadd, cell_of_row w g (off + j) _ _ _ h1]
        simpa using h6) a 1 c [Value.int .i64 (x : Int)] (by simp [hsize]) hn (by omega) (by omega) (by rw [hby]; exact growslice_fits (by omega) (by omega))
    refine ⟨w.heap.size, 0, _, _, hr, ?_, ⟨rfl, rfl, rfl, by simp, fun k hk _ => heap_alloc_old w.drew _ hk⟩, .inr rfl⟩
    refine ⟨_, heap_alloc_new w.drew _, by simpa using hgc, grownCap_le_maxLen w _ _ _ (by unfold maxLen; omega), ?_, ?_⟩
    · simp only [Array.size_append, List.size_toArray, size_zeroCells, List.length_map, List.length_cons, List.length_nil, Value.cells]
      simp
      omega
    · simp only [List.drop_zero, Array.toList_append, List.append_assoc]
      rw [← List.append_assoc, List.take_append_of_le_length (by simp), List.take_of_length_le (by simp), List.map_append]
      rfl

theorem wpList_append_q {P : Program} {w : World} {ops : Array Oper} {rest : List Oper} {o : Oper} {a : Act} {Q : Exit → Act → World → Prop} (hgd : o.guard = none) (s x : Operand) (t : TypeId)
    (ho : o.op = .call { callee := .builtin .append, args := #[s, x], argTypes := #[t, t] })
    (i : TypeInfo) (ht : P.underlying t = some (.slice 3)) (hi : P.info? 3 = some i) (hz : i.zero = some (.int .i64 0)) (hsize : i.size = 1) (hby : i.bytes = 8)
    (g off cap y n : Nat) (q : List Nat) (hn : n = q.length) (hs : a.eval s = .slice (some ⟨g, off, none⟩) n cap) (hq : OwnsQ w g off cap q) (hl : q.length ≤ 1000000) (ad : Addr) (c : Nat) (hx : a.eval x = .slice (some ad) 1 c) (hnews : w.cell? ad = some (.int .i64 (y : Int)))
    (h : ∀ g' off' cap' w', OwnsQ w' g' off' cap' (q ++ [y]) → w.grownBy w' (some g) → (g' = g ∨ g' = w.heap.size) → wpList P ops Q rest (a.put o.dst (.slice (some ⟨g', off', none⟩) (n + 1) cap')) w') :
    wpList P ops Q (o :: rest) a w := by
  subst hn
  refine wpList_plain hgd fun K hK => ?_
  obtain ⟨g', off', cap', w', hr, h2, h3, h4⟩ := run_append_q (P := P) w t o.type i ht hi hz hsize hby g off cap y q hq hl ad c hnews
  unfold Oper.wp execOp
  simp only [ho, resolve, invoke, builtin, Sem.run_bind, Sem.run_pure, Result.andThen_ok, List.map_toArray, List.map_cons, List.map_nil, hs, hx, hr]
  exact hK _ _ (h g' off' cap' w' h2 h3 h4)

end Go.Proofs.Qxb6612201a
