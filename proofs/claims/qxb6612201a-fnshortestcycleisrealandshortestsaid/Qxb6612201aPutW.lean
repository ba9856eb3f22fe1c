/-
  WALK: the function within shortestCycle that keeps a read at a node (17).
-/
import Derived.Test.Qxb6612201aRows1
import Derived.Deep.AppendLies
import Derived.Deep.RegionLaw
import Derived.Shelf.Abstract
import Derived.Handy
namespace Go.Proofs.Qxb6612201a
open Go.RowKit Go.Shelf
set_option linter.unusedVariables false
set_option linter.unusedSimpArgs false

theorem Try.info50 : (Try.prog.info? 50).map (fun i => (i.zero, i.size, i.bytes)) = some (some (.agg #[.int .i64 0, .int .i64 0]), 2, 16) := by kernel_rfl
theorem Try.enters17 : ∀ args w, (callFunc 17 args).run Try.prog w = .ok (.enter 17 args) w := enters_of Try.func17 (by kernel_rfl) rfl

theorem two_new (w : World) (x y : Value) (t : TypeId) : ∀ j u, [x, y][j]? = some u → (w.alloc (.cells #[x, y] t)).cell? ((⟨w.heap.size, 0, none⟩ : Addr).add j) = some u := by
  intro j u hj
  have h1 := heap_alloc_new w (.cells #[x, y] t)
  have hadd : (⟨w.heap.size, 0, none⟩ : Addr).add j = ⟨w.heap.size, j, none⟩ := by unfold Addr.add; split <;> simp_all
  rw [hadd, cell_of_row _ _ j _ _ _ h1]
  simpa using hj

/-- What 17 leaves. -/
def PutPost (base : Nat) (dom : Nat → Nat → Prop) (ty sz : Nat → Nat → Nat) (v : Nat → Nat → Value) (len : Nat → Nat → Nat) (val : Nat → Nat → List Value) (b o : Nat) (xs : List Value) (w w' : World) : Prop :=
  ∃ v', Rows base dom ty sz (upd v b o v') (upd len b o (len b o + 1)) (upd val b o (val b o ++ xs)) w' ∧ Turned (b :: (v b o).ownBlock.toList) w w' ∧ (v'.ownBlock = (v b o).ownBlock ∨ ∃ k, v'.ownBlock = some k ∧ w.heap.size ≤ k)

set_option maxHeartbeats 6400000 in
set_option maxRecDepth 100000 in
theorem put_any (base : Nat) (dom : Nat → Nat → Prop) (ty sz : Nat → Nat → Nat) (v : Nat → Nat → Value) (len : Nat → Nat → Nat) (val : Nat → Nat → List Value) (p bRdb bRd ba N : Nat) (pos tx : Int) (w : World) (hN : (N : Int) ≤ 1000000) (hp : (p : Int) < N)
    (hR : Hid (Rows base dom ty sz v len val w)) (hd : Hid (dom bRd p)) (ht : Hid (ty bRd p = 50 ∧ sz bRd p = 2)) (hl : Hid (len bRd p ≤ 1000000)) (HF : Hid (∀ k, (v bRd p).ownBlock = some k → k ≠ bRdb)) (hb : w.heap[bRdb]? = some (.cells #[.slice (some ⟨bRd, 0, none⟩) N N] 47 (0, 0))) (ha : w.heap[ba]? = some (.cells #[.int .i64 pos, .int .i64 tx] 50 (0, 0))) :
    Calls Try.prog 17 #[.int .i64 p, .pointer (some ⟨bRdb, 0, none⟩), .pointer (some ⟨ba, 0, none⟩)] w fun e w' => e = .returned (.tuple #[]) ∧ PutPost base dom ty sz v len val bRd p [.int .i64 pos, .int .i64 tx] w w' := by
  obtain ⟨i0, hi, hz0, hz1, hz2⟩ := info_parts Try.info50
  have c0 := cell_of_row w bRdb 0 _ _ _ hb
  have c1 := cell_of_row w ba 0 _ _ _ ha
  have c2 := cell_of_row w ba 1 _ _ _ ha
  simp only [List.getElem?_toArray, List.getElem?_cons_zero, List.getElem?_cons_succ] at c0 c1 c2
  have c3 := hR.out.cell bRd p hd.out
  have ho := hR.out.own bRd p hd.out
  rw [ht.out.1, ht.out.2] at ho
  have b0 : (0 : Int) ≤ (p : Int) := by omega
  have HB := hidden hb
  have HA := hidden ha
  obtain ⟨sv, hsv⟩ : ∃ sv, sv = v bRd p := ⟨_, rfl⟩
  have HS := hidden hsv
  rw [← hsv] at c3 ho
  have HO := hidden ho
  clear ho hb ha hsv
  have al : ∀ (b o : Nat) (x : Value), b < w.heap.size → w.cell? ⟨b, o, none⟩ = some x → (w.alloc (.cells #[.int .i64 pos, .int .i64 tx] 50)).cell? ⟨b, o, none⟩ = some x := fun b o x hb hc => (World.cell?_of_block (a := ⟨b, o, none⟩) (heap_alloc_old w _ hb)).trans hc
  have d0 := al _ _ _ (Array.getElem?_eq_some_iff.1 HB.out).1 c0
  have d3 := al _ _ _ (Nat.lt_of_lt_of_le (hR.out.low _ _ hd.out) hR.out.top) c3
  clear al
  go_enter Try.func17, Try.ntmps17
  go_wp2_with fail
  have LAW : Hid (∀ (g cap : Nat) (w1 : World), w1.ownsRow base 50 2 (.slice (some ⟨g, 0, none⟩) (len bRd p + 1) cap) (len bRd p + 1) (val bRd p ++ [.int .i64 pos, .int .i64 tx]) → (w.drew.alloc (.cells #[.int .i64 pos, .int .i64 tx] 50)).grownBy w1 sv.ownBlock → (sv.ownBlock = some g ∨ g = w.heap.size + 1) →
      (w1.cell? ⟨bRdb, 0, none⟩ = some (.slice (some ⟨bRd, 0, none⟩) N N) ∧ w1.cell? ⟨bRd, p, none⟩ = some sv ∧ w1.frozen? ⟨bRd, p, none⟩ = false) ∧ PutPost base dom ty sz v len val bRd p [.int .i64 pos, .int .i64 tx] w (w1.setCell ⟨bRd, p, none⟩ (.slice (some ⟨g, 0, none⟩) (len bRd p + 1) cap))) := hidden fun g cap w1 h1 h2 h3 => by
    rw [HS.out] at h2 h3
    have hg : w.grownBy w1 (v bRd p).ownBlock := ⟨h2.os, h2.tape, h2.output, Nat.le_trans (by simp) h2.size, fun k hk hne => (h2.block k (by simp; omega) hne).trans (heap_alloc_old w.drew _ hk)⟩
    rw [← ht.out.1, ← ht.out.2] at h1
    obtain ⟨r1, r2, r3, r4⟩ := hR.out.push hd.out hg h1 (by
      rcases h3 with h3 | h3
      · exact .inl h3.symm
      · exact .inr ⟨g, rfl, by omega⟩)
    refine ⟨⟨?_, by rw [r3, HS.out], r4⟩, _, r1, r2, by
      rcases h3 with h3 | h3
      · exact .inl h3.symm
      · exact .inr ⟨g, rfl, by omega⟩⟩
    rw [World.cell?_of_block (a := ⟨bRdb, 0, none⟩) (w' := w1) (w := w) (hg.block bRdb (Array.getElem?_eq_some_iff.1 HB.out).1 (fun e => HF.out bRdb e.symm rfl)), cell_of_row w bRdb 0 _ _ _ HB.out]
    rfl
  go_region_law (
    refine step_append_lies _ rfl (.tmp 9) (.tmp 11) 58 rfl base 50 i0 (.agg #[.int .i64 0, .int .i64 0]) 2 16 Try.underlying58 hi hz0 hz1 hz2 rfl (by omega) sv (len bRd p) (val bRd p) (by rfl) (HO.out.drew.alloc _) ⟨w.heap.size, 0, none⟩ 1 1 [.int .i64 pos, .int .i64 tx] (by rfl) (by rfl) (two_new w.drew _ _ _) (by simp [Value.oneCell']) (by decide) (by have := hl.out; unfold maxLen; omega) (by have := hl.out; omega) (by have := hR.out.top; simp; omega) (w.heap.size + 1) (by simp) ?_
    intro g cap w1 hown1 hgrow hat hlt2
    have hlaw := hidden (LAW.out g cap w1 hown1 hgrow hat)
    have e1 := hlaw.out.1.1
    have e2 := hlaw.out.1.2.1
    have e3 := hlaw.out.1.2.2
    clear hown1 hgrow hat hlt2)
  all_goals
    go_returns
    exact ⟨rfl, hlaw.out.2⟩

end Go.Proofs.Qxb6612201a
