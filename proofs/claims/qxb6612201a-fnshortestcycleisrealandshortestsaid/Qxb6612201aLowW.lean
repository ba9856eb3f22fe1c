/-
  WALK: minTree.lowest.
-/
import Derived.Test.Qxb6612201aCoverW
import Derived.Shelf.Abstract
namespace Go.Proofs.Qxb6612201a
open Go.RowKit
set_option linter.unusedVariables false
set_option linter.unusedSimpArgs false

theorem heap_two (w : World) (o p : Obj) : ((w.alloc o).alloc p).heap[w.heap.size + 1]? = some p := by
  have h := heap_alloc_new (w.alloc o) p
  rwa [show (w.alloc o).heap.size = w.heap.size + 1 by simp] at h

/-- The row's cells, read only. -/
def Reads (w : World) (g N : Nat) (arr : List Int) : Prop := arr.length = N ∧ g < w.heap.size ∧ ∀ j, j < N → w.cell? ⟨g, j, none⟩ = some (.int .i64 (iAt arr j))

theorem Reads.below {w w' : World} {g N : Nat} {arr : List Int} (h : Reads w g N arr) {B : Nat} (hb : Below B w w') (hg : g < B) : Reads w' g N arr :=
  ⟨h.1, Nat.lt_of_lt_of_le h.2.1 hb.size, fun j hj => (hb.cell (p := ⟨g, j, none⟩) hg).trans (h.2.2 j hj)⟩

/-- The least so far. -/
def lowM (arr : List Int) (ps : List Nat) : Int := ps.foldl (fun m p => if iAt arr p < m then iAt arr p else m) 9223372036854775807

theorem lowM_snoc (arr : List Int) (ps : List Nat) (p : Nat) : lowM arr (ps ++ [p]) = if iAt arr p < lowM arr ps then iAt arr p else lowM arr ps := by
  unfold lowM
  rw [List.foldl_append]
  rfl

theorem lowM_lt (arr : List Int) (b : Int) (hb : b ≤ 9223372036854775807) : ∀ (ps : List Nat), lowM arr ps < b ↔ ∃ p ∈ ps, iAt arr p < b := by
  intro ps
  have : ∀ (ps : List Nat) (m : Int), ps.foldl (fun m p => if iAt arr p < m then iAt arr p else m) m < b ↔ m < b ∨ ∃ p ∈ ps, iAt arr p < b := by
    intro ps
    induction ps with
    | nil => intro m; simp
    | cons p ps ih =>
      intro m
      rw [List.foldl_cons, ih]
      constructor
      · rintro (h | ⟨q, hq, h⟩)
        · split at h
          · exact .inr ⟨p, List.mem_cons_self .., h⟩
          · exact .inl h
        · exact .inr ⟨q, List.mem_cons_of_mem _ hq, h⟩
      · rintro (h | ⟨q, hq, h⟩)
        · left; split <;> omega
        · rcases List.mem_cons.1 hq with rfl | hq
          · left; split <;> omega
          · exact .inr ⟨q, hq, h⟩
  unfold lowM
  rw [this]
  constructor
  · rintro (h | h)
    · omega
    · exact h
  · exact .inr

set_option maxHeartbeats 3200000 in
set_option maxRecDepth 100000 in
theorem low1_any (bm bt g z N p : Nat) (m : Int) (arr : List Int) (w : World) (hp : (p : Int) < N) (hN : (N : Int) ≤ 4000000) (hm : Hid (w.heap[bm]? = some (.cells #[.int .i64 m] 3 (0, 0)))) (ht : Hid (w.heap[bt]? = some (.cells #[.int .i64 z, .slice (some ⟨g, 0, none⟩) N N] 67 (0, 0))))
    (hr : Hid (Reads w g N arr)) :
    Calls Try.prog 52 #[.int .i64 p, .pointer (some ⟨bm, 0, none⟩), .pointer (some ⟨bt, 0, none⟩)] w fun e w' => e = .returned (.tuple #[]) ∧ (w.setCell ⟨bm, 0, none⟩ (.int .i64 (if iAt arr p < m then iAt arr p else m))).drew = w' := by
  have c0 := cell_of_row w bm 0 _ _ _ hm.out
  have c1 := cell_of_row w bt 1 _ _ _ ht.out
  simp only [List.getElem?_toArray, List.getElem?_cons_zero, List.getElem?_cons_succ] at c0 c1
  have f0 := frozen_of_row w bm 0 _ _ hm.out
  have e1 := hr.out.2.2 p (by omega)
  have b6 : (0 : Int) ≤ (p : Int) := by omega
  go_enter Try.func52, Try.ntmps52
  go_wp2_with fail
  go_region
  go_wp2
  all_goals
    go_returns
    exact ⟨rfl, rfl⟩

theorem Try.enters52 : ∀ args w, (callFunc 52 args).run Try.prog w = .ok (.enter 52 args) w := enters_of Try.func52 (by kernel_rfl) rfl

/-- While 'lowest' runs. -/
def LowInv (W : World) (bm bt g z N : Nat) (arr : List Int) (ps : List Nat) (w : World) : Prop :=
  w.heap[bm]? = some (.cells #[.int .i64 (lowM arr ps)] 3 (0, 0)) ∧ w.heap[bt]? = some (.cells #[.int .i64 z, .slice (some ⟨g, 0, none⟩) N N] 67 (0, 0)) ∧ Below W.heap.size W w

/-- What 'lowest' says. -/
def LowSays (z lo hi : Nat) (arr : List Int) (m : Int) : Prop := ∀ b : Int, b ≤ 9223372036854775807 → (m < b ↔ ∃ i, lo ≤ i ∧ i < hi ∧ iAt arr (z + i) < b)

theorem low_says {H z lo hi : Nat} {arr : List Int} (hz : z = 2 ^ H) (hM : IsMin H arr) (hh : hi ≤ z) : LowSays z lo hi arr (lowM arr (cover H lo hi)) := by
  intro b hb
  subst hz
  rw [lowM_lt arr b hb]
  constructor
  · rintro ⟨p, hp, hlt⟩
    have hr := cover_range hh p hp
    obtain ⟨i, hi', hu, hb'⟩ := (hM.node b p hr.1 hr.2).1 hlt
    have := (cover_under hh hi').1 ⟨p, hp, hu⟩
    exact ⟨i, this.1, this.2, hb'⟩
  · rintro ⟨i, h1, h2, hb'⟩
    obtain ⟨p, hp, hu⟩ := (cover_under (lo := lo) hh (Nat.lt_of_lt_of_le h2 hh)).2 ⟨h1, h2⟩
    have hr := cover_range hh p hp
    exact ⟨p, hp, (hM.node b p hr.1 hr.2).2 ⟨i, by omega, hu, hb'⟩⟩

set_option maxHeartbeats 3200000 in
set_option maxRecDepth 100000 in
theorem lowest_any (g z N H lo hi : Nat) (arr : List Int) (w : World) (HZ : Hid (z = 2 ^ H)) (HN : Hid (N = 2 * z)) (hz : (z : Int) ≤ 2000000) (hlh : (lo : Int) ≤ 2000000) (hh : (hi : Int) ≤ z) (hM : Hid (IsMin H arr)) (hr : Hid (Reads w g N arr)) :
    Calls Try.prog 41 #[.agg #[.int .i64 z, .slice (some ⟨g, 0, none⟩) N N], .int .i64 lo, .int .i64 hi] w fun e w' => (∃ m, e = .returned (.int .i64 m) ∧ LowSays z lo hi arr m) ∧ Below w.heap.size w w' := by
  have hmf : ∀ (fn : Fn) (first cap : Array Value) (w : World), (Instr.makeFunc fn first cap).run Try.prog w = .ok (.func fn first cap) w := fun _ _ _ _ => rfl
  go_enter Try.func41, Try.ntmps41
  go_wp2_with fail
  refine (cover_any 52 #[.pointer (some ⟨w.heap.size + 1, 0, none⟩), .pointer (some ⟨w.heap.size, 0, none⟩)] z H lo hi (LowInv w (w.heap.size + 1) w.heap.size g z N arr) _ HZ hz hlh hh Try.enters52 (hidden ?_) (hidden ?_)).mono ?_
  · intro ps p wx _ h1 h2 hI
    obtain ⟨i1, i2, i3⟩ := hI
    have hp : (p : Int) < N := by have := HN.out; omega
    have hN4 : (N : Int) ≤ 4000000 := by have := HN.out; omega
    refine (low1_any (w.heap.size + 1) w.heap.size g z N p (lowM arr ps) arr wx hp hN4 (hidden i1) (hidden i2) (hidden (hr.out.below i3 hr.out.2.1))).mono ?_
    rintro e w' ⟨rfl, rfl⟩
    refine ⟨rfl, ?_, ?_, ?_⟩
    · rw [lowM_snoc]
      exact heap_setCell_same wx (w.heap.size + 1) 0 _ 3 _ i1
    · exact (heap_setCell_other wx ⟨w.heap.size + 1, 0, none⟩ w.heap.size _ (by simp)).trans i2
    · exact (i3.grown (grown_set wx (w.heap.size + 1) 0 _) i3.size (fun k hk => by cases hk; omega)).drew
  · refine ⟨?_, ?_, ?_⟩
    · exact (heap_alloc_old _ _ (by simp)).trans (heap_two w _ _)
    · exact (heap_alloc_old _ _ (by simp; omega)).trans ((heap_alloc_old _ _ (by simp)).trans (heap_alloc_new w _))
    · exact ((((Below.refl _ _).alloc (Nat.le_refl _) _).alloc (by simp) _).alloc (by simp; omega) _).drew
  · rintro e w1 ⟨rfl, i1, i2, i3⟩
    have c0 := cell_of_row w1 (w.heap.size + 1) 0 _ _ _ i1
    simp only [List.getElem?_toArray, List.getElem?_cons_zero, List.getElem?_cons_succ] at c0
    go_wp2_with fail
    go_returns
    exact ⟨⟨_, rfl, low_says HZ.out hM.out (by omega)⟩, i3⟩

end Go.Proofs.Qxb6612201a
