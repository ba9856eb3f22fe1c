/-
  WALK: minTree.set.
-/
import Derived.Test.Qxb6612201aTreeW
import Derived.Deep.RegionHeld3
namespace Go.Proofs.Qxb6612201a
open Go.RowKit
set_option linter.unusedVariables false

theorem ints_get (arr : List Int) (p : Nat) (hp : p < arr.length) : (arr.map (Value.int .i64))[p]? = some (.int .i64 (iAt arr p)) := by
  rw [List.getElem?_map, List.getElem?_eq_getElem hp]
  unfold iAt
  rw [List.getD_eq_getElem?_getD, List.getElem?_eq_getElem hp]
  rfl

theorem ints_set (arr : List Int) (p : Nat) (x : Int) : (arr.map (Value.int .i64)).set p (.int .i64 x) = (arr.set p x).map (Value.int .i64) := by rw [List.map_set]

theorem keep_other {w : World} {a b : Addr} {u v : Value} (h : a ≠ b) (hc : w.cell? b = some u) : (w.setCell a v).drew.cell? b = some u := (World.cell?_setCell_other w a b v h).trans hc
theorem keep_same {w : World} {a : Addr} {u v : Value} (hc : w.cell? a = some u) : (w.setCell a v).drew.cell? a = some v := World.cell?_setCell_same w a v hc

theorem keep_free {w : World} {a b : Addr} {v : Value} (h : w.frozen? b = false) : (w.setCell a v).drew.frozen? b = false := by
  show (w.setCell a v).frozen? b = false
  rw [World.frozen?_setCell]
  exact h
theorem grown_drew {w w' : World} {r : Option Nat} (h : w.grownBy w' r) : w.grownBy w'.drew r := ⟨h.os, h.tape, h.output, h.size, h.block⟩
theorem ne_block {b c o q : Nat} (h : b ≠ c) : (⟨b, o, none⟩ : Addr) ≠ ⟨c, q, none⟩ := fun e => h (by cases e; rfl)
theorem ne_off {b c o q : Nat} (h : o ≠ q) : (⟨b, o, none⟩ : Addr) ≠ ⟨c, q, none⟩ := fun e => h (by cases e; rfl)

/-- The row in the middle of 'set'. -/
def SetMid (H z i p : Nat) (x : Int) (arr a' : List Int) : Prop := OkBut H a' p ∧ a'.length = 2 * z ∧ ∀ k, k < z → iAt a' (z + k) = if k = i then x else iAt arr (z + k)

/-- What 'set' leaves. -/
def SetDone (B g z N H i : Nat) (x : Int) (arr : List Int) (w' : World) : Prop :=
  ∃ arr', IsMin H arr' ∧ (∀ k, k < z → iAt arr' (z + k) = if k = i then x else iAt arr (z + k)) ∧ w'.ownsRow B 3 1 (.slice (some ⟨g, 0, none⟩) N N) N (arr'.map (Value.int .i64))

set_option maxHeartbeats 3200000 in
set_option maxRecDepth 100000 in
theorem set_any (B g z N H i : Nat) (x : Int) (arr : List Int) (w : World) (HZ : Hid (z = 2 ^ H)) (HN : Hid (N = 2 * z)) (hz : (z : Int) ≤ 2000000) (hi : (i : Int) < z) (hM : Hid (IsMin H arr))
    (ho : Hid (w.ownsRow B 3 1 (.slice (some ⟨g, 0, none⟩) N N) N (arr.map (Value.int .i64)))) :
    Calls Try.prog 20 #[.agg #[.int .i64 z, .slice (some ⟨g, 0, none⟩) N N], .int .i64 i, .int .i64 x] w fun e w' =>
      e = .returned (.tuple #[]) ∧ SetDone B g z N H i x arr w' ∧ w.grownBy w' (some g) := by
  have hg := (ho.out.lt g rfl).2
  have hN : 2 * (z : Int) = N := by have := HN.out; omega
  have hN' : (z : Int) + (i : Int) < N := by omega
  have hlen := hM.out.len
  have hp1 : (2 : Int) ^ H = z := by rw [HZ.out]; simp
  go_enter Try.func20, Try.ntmps20
  go_wp2_with fail
  refine (leaf_any z i _ hz (by omega)).mono ?_
  rintro e w1 ⟨rfl, hw1⟩
  have ho1 : w1.ownsRow B 3 1 (.slice (some ⟨g, 0, none⟩) N N) N (arr.map (Value.int .i64)) := by
    rw [← hw1]
    exact (ho.out.alloc _).alloc _
  have hg1 : w.grownBy w1 (some g) := by
    rw [← hw1]
    exact (World.grownBy_alloc _ _ _).trans (World.grownBy_alloc _ _ _)
  have hx1 : w1.heap[w.heap.size]? = some (.cells #[.int .i64 z, .slice (some ⟨g, 0, none⟩) N N] 67 (0, 0)) := by
    rw [← hw1, heap_alloc_old _ _ (by simp)]
    exact heap_alloc_new w _
  have e1 := (ho1.cellAt (z + i) (by have := HN.out; omega)).trans (ints_get arr (z + i) (by rw [hlen, ← HZ.out]; omega))
  have f1 := ho1.frozenAt (z + i)
  have c0 := cell_of_row w1 w.heap.size 0 _ _ _ hx1
  have c1 := cell_of_row w1 w.heap.size 1 _ _ _ hx1
  simp only [List.getElem?_toArray, List.getElem?_cons_zero, List.getElem?_cons_succ] at c0 c1
  obtain ⟨r1, g1⟩ := ho1.stored (z + i) (.int .i64 x)
  rw [ints_set] at r1
  have k1 : ((z : Int) + (i : Int)).toNat = z + i := by omega
  have hx2 : (w1.setCell ⟨g, z + i, none⟩ (.int .i64 x)).heap[w.heap.size]? = some (.cells #[.int .i64 z, .slice (some ⟨g, 0, none⟩) N N] 67 (0, 0)) := (heap_setCell_other w1 ⟨g, z + i, none⟩ w.heap.size _ (by simp; omega)).trans hx1
  have X2 := hidden hx2
  have R1 := hidden r1
  have G1 := hidden (hg1.trans g1)
  have HL := hidden hlen
  clear hN r1 g1 hlen ho1 hp1 hx1 hx2 hw1 hg1
  go_wp2_with fail
  go_loopw [6] (fun v wr => ∃ (p : Nat) (a' : List Int), v = .int .i64 p ∧ p < z ∧ Hid (SetMid H z i p x arr a') ∧ Hid (wr.ownsRow B 3 1 (.slice (some ⟨g, 0, none⟩) N N) N (a'.map (Value.int .i64))) ∧ Hid (w.grownBy wr (some g)) ∧ Hid (wr.heap[w.heap.size]? = some (.cells #[.int .i64 z, .slice (some ⟨g, 0, none⟩) N N] 67 (0, 0)))) (fun v _ => (intOf v).toNat)
  case atStart =>
    refine ⟨(z + i) / 2, _, ?_, by omega, ?_, R1, G1, X2⟩
    · simp
    · refine hidden ⟨?_, by rw [List.length_set, HL.out, HZ.out], fun k hk => ?_⟩
      · rw [HZ.out]
        exact OkBut.start hM.out i (by rw [← HZ.out]; omega) x
      · rw [iAt_set _ _ _ _ (by rw [HL.out, ← HZ.out]; omega)]
        by_cases hki : k = i
        · rw [if_pos hki, if_pos (by omega)]
        · rw [if_neg hki, if_neg (by omega)]
  case round =>
    obtain ⟨p, a', rfl, hp, hS, ho', hg', hx'⟩ := hrel
    by_cases h1 : (1 : Int) ≤ p
    · have c0 := cell_of_row wr w.heap.size 0 _ _ _ hx'.out
      have c1 := cell_of_row wr w.heap.size 1 _ _ _ hx'.out
      simp only [List.getElem?_toArray, List.getElem?_cons_zero, List.getElem?_cons_succ] at c0 c1
      have hl' := hS.out.2.1
      have e1 := (ho'.out.cellAt (2 * p) (by have := HN.out; omega)).trans (ints_get a' (2 * p) (by rw [hl']; omega))
      have e2 := (ho'.out.cellAt (2 * p + 1) (by have := HN.out; omega)).trans (ints_get a' (2 * p + 1) (by rw [hl']; omega))
      have e3 := (ho'.out.cellAt p (by have := HN.out; omega)).trans (ints_get a' p (by rw [hl']; omega))
      have f3 := ho'.out.frozenAt p
      clear hl'
      have hp2 : (p : Int) < z := by omega
      have k2 : (2 * (p : Int)).toNat = 2 * p := by omega
      have k3 : (2 * (p : Int) + 1).toNat = 2 * p + 1 := by omega
      have n1 : 2 * p ≠ p := by omega
      have n2 : 2 * p + 1 ≠ p := by omega
      have n3 : w.heap.size ≠ g := by omega
      have b1 : (0 : Int) ≤ 2 * (p : Int) := by omega
      have b2 : 2 * (p : Int) < N := by have := HN.out; omega
      have b3 : (0 : Int) ≤ 2 * (p : Int) + 1 := by omega
      have b4 : 2 * (p : Int) + 1 < N := by have := HN.out; omega
      have b5 : (p : Int) < N := by have := HN.out; omega
      have b6 : (0 : Int) ≤ (p : Int) := by omega
      have v1 : IntKind.i64.wrap (2 * (p : Int)) = 2 * (p : Int) := by simp [IntKind.wrap, IntKind.bits, IntKind.signed]; omega
      have v2 : IntKind.i64.wrap (2 * (p : Int) + 1) = 2 * (p : Int) + 1 := by simp [IntKind.wrap, IntKind.bits, IntKind.signed]; omega
      go_wp2
      go_region_held3 (fun w' => w'.cell? ⟨w.heap.size, 1, none⟩ = some (.slice (some ⟨g, 0, none⟩) N N) ∧ w'.cell? ⟨g, 2 * p, none⟩ = some (.int .i64 (iAt a' (2 * p))) ∧ w'.cell? ⟨g, 2 * p + 1, none⟩ = some (.int .i64 (iAt a' (2 * p + 1))) ∧ w'.frozen? ⟨g, p, none⟩ = false ∧ ∃ v, w'.cell? ⟨g, p, none⟩ = some v) (first | exact ⟨keep_other (ne_block (Ne.symm n3)) c1, keep_other (ne_off (Ne.symm n1)) e1, keep_other (ne_off (Ne.symm n2)) e2, keep_free f3, ⟨_, keep_same e3⟩⟩ | go_keep) (fail)
      go_wp2
      go_roundw
      case rel =>
        have hmin : (if iAt a' (2 * p + 1) < iAt a' (2 * p) then iAt a' (2 * p + 1) else iAt a' (2 * p)) = min (iAt a' (2 * p)) (iAt a' (2 * p + 1)) := by split <;> omega
        obtain ⟨s1, s2⟩ := ho'.out.stored p (.int .i64 (if iAt a' (2 * p + 1) < iAt a' (2 * p) then iAt a' (2 * p + 1) else iAt a' (2 * p)))
        rw [ints_set] at s1
        obtain ⟨m1, m2, m3⟩ := hS.out
        refine ⟨p / 2, a'.set p (if iAt a' (2 * p + 1) < iAt a' (2 * p) then iAt a' (2 * p + 1) else iAt a' (2 * p)), by simp, by omega, hidden ⟨?_, by rw [List.length_set, m2], fun k hk => ?_⟩, hidden s1, hidden (grown_drew (hg'.out.trans s2)), hidden ?_⟩
        · rw [hmin]
          exact m1.step (by rw [m2, HZ.out]) (by omega) (by rw [← HZ.out]; exact hp)
        · rw [iAt_set _ _ _ _ (by rw [m2]; omega), if_neg (by omega)]
          exact m3 k hk
        · exact (heap_setCell_other wr ⟨g, p, none⟩ w.heap.size _ n3).trans hx'.out
      case measure => simp [intOf]; omega
    · have hp0 : p = 0 := by omega
      subst hp0
      go_wp2
      go_returns
      obtain ⟨m1, m2, m3⟩ := hS.out
      exact ⟨rfl, ⟨a', m1.final (by rw [m2, HZ.out]), m3, ho'.out⟩, hg'.out⟩

end Go.Proofs.Qxb6612201a
