/-
  WALK: newConflictsFrom (27).
-/
import Derived.Test.Qxb6612201aPrecW
import Derived.Test.Qxb6612201aSorted
import Derived.Test.Qxb6612201aBelowW
import Derived.Test.Qxb6612201aPh2
import Derived.Test.Qxb6612201aPutW
import Derived.Test.Qxb6612201aBnd
import Derived.Maps.AppendAt
import Derived.Deep.RegionHeld3
import Derived.Deep.DeepCutAuto
namespace Go.Proofs.Qxb6612201a
open Go.RowKit Go.Shelf
set_option linter.unusedVariables false
set_option linter.unusedSimpArgs false

set_option maxHeartbeats 1000000 in
theorem values_any (a : Option Addr) (len cap : Nat) (w : World) :
    Calls Try.prog 33 #[.slice a len cap] w fun e w' => e = .returned (.func (.func 45) #[] #[.pointer (some ⟨w.heap.size, 0, none⟩)]) ∧ w.alloc (.cells #[.slice a len cap] 52) = w' := by
  have hmf : ∀ (fn : Fn) (first cap : Array Value) (w : World), (Instr.makeFunc fn first cap).run Try.prog w = .ok (.func fn first cap) w := fun _ _ _ _ => rfl
  go_enter Try.func33, Try.ntmps33
  go_wp2
  go_ret
  exact ⟨rfl, rfl⟩

theorem T3.trow {B : Nat} {w : World} {a : Option Addr} {cap g L : Nat} {zs : List Tri} (h : T3 B w a cap g zs) (hL : L = zs.length) : TRow B w (.slice a L cap) zs := by
  subst hL
  rcases h.form with rfl | ⟨rfl, rfl, rfl⟩
  · exact .inr ⟨g, cap, rfl, h.lt, h.cells⟩
  · exact .inl ⟨rfl, rfl⟩

/-- The sorted writes: a row in a block below. -/
theorem TRow.t3 {w : World} {v : Value} {zs : List Tri} (h : TRow w.heap.size w v zs) (hl : zs.length ≤ 1000000) (h0 : 0 < w.heap.size) : ∃ a cap g, v = .slice a zs.length cap ∧ T3 w.heap.size w a cap g zs := by
  rcases h with ⟨rfl, rfl⟩ | ⟨b, cap, rfl, hb, hc⟩
  · exact ⟨none, 0, 0, rfl, fun h => by simp at h, .inr ⟨rfl, rfl, rfl⟩, h0, Nat.zero_le _, fun j x hx => by simp at hx⟩
  · exact ⟨_, cap, b, rfl, fun _ => rfl, .inl rfl, hb, hl, hc⟩

theorem TRow.mono' {n m : Nat} {w : World} {v : Value} {zs : List Tri} (h : TRow n w v zs) (hnm : n ≤ m) : TRow m w v zs := by
  rcases h with h | ⟨b, cap, h1, h2, h3⟩
  · exact .inl h
  · exact .inr ⟨b, cap, h1, by omega, h3⟩

/-- Behind the making of c: its box b4, its items' row ig, its tree's row g. -/
def Cut2 (base m : Nat) (w2 : World) (v4 : Value) (wc : World) : Prop :=
  ∃ b4 ig z g N : Nat, v4 = .pointer (some ⟨b4, 0, none⟩) ∧ wc.heap[b4]? = some (.cells #[.slice (some ⟨ig, 0, none⟩) m m, .int .i64 z, .slice (some ⟨g, 0, none⟩) N N, .slice none 0 0, .int .i64 0, .slice none 0 0] 76 (0, 0)) ∧
    wc.heap[ig]? = some (.cells ((List.replicate m (0 : Int)).map (Value.int .i64)).toArray 3 (0, 0)) ∧ wc.heap[g]? = some (.cells ((List.replicate N (9223372036854775807 : Int)).map (Value.int .i64)).toArray 3 (0, 0)) ∧ PowFor m z ∧ N = 2 * z ∧ b4 ≠ ig ∧ b4 ≠ g ∧ ig ≠ g ∧ base ≤ b4 ∧ base ≤ ig ∧ base ≤ g ∧ Below base w2 wc

theorem own_row_heap {w : World} {B e g N : Nat} {xs : List Value} (h : w.ownsRow B e 1 (.slice (some ⟨g, 0, none⟩) N N) N xs) : w.heap[g]? = some (.cells xs.toArray e (0, 0)) := by
  rcases h.2 with ⟨h0, _⟩ | ⟨g', cap, cur, hv, _, hc, _, _, hs, htk⟩
  · cases h0
  · simp only [Value.slice.injEq, Option.some.injEq, Addr.mk.injEq] at hv
    obtain ⟨⟨rfl, _, _⟩, _, rfl⟩ := hv
    rw [hc, ← htk, List.take_of_length_le (by rw [Array.length_toList, hs]; omega)]

theorem set6 (w : World) (b ty : Nat) (a0 a1 a2 a3 a4 a5 c0 c1 c2 c3 c4 c5 : Value) (h : w.heap[b]? = some (.cells #[a0, a1, a2, a3, a4, a5] ty (0, 0))) :
    ((((((w.setCell ⟨b, 0, none⟩ c0).setCell ⟨b, 1, none⟩ c1).setCell ⟨b, 2, none⟩ c2).setCell ⟨b, 3, none⟩ c3).setCell ⟨b, 4, none⟩ c4).setCell ⟨b, 5, none⟩ c5).heap[b]? = some (.cells #[c0, c1, c2, c3, c4, c5] ty (0, 0)) ∧
    Turned [b] w ((((((w.setCell ⟨b, 0, none⟩ c0).setCell ⟨b, 1, none⟩ c1).setCell ⟨b, 2, none⟩ c2).setCell ⟨b, 3, none⟩ c3).setCell ⟨b, 4, none⟩ c4).setCell ⟨b, 5, none⟩ c5) := by
  have h1 := heap_setCell_same w b 0 _ ty c0 h
  have h2 := heap_setCell_same _ b 1 _ ty c1 h1
  have h3 := heap_setCell_same _ b 2 _ ty c2 h2
  have h4 := heap_setCell_same _ b 3 _ ty c3 h3
  have h5 := heap_setCell_same _ b 4 _ ty c4 h4
  have h6 := heap_setCell_same _ b 5 _ ty c5 h5
  refine ⟨by rw [h6]; simp, ?_⟩
  have st : ∀ (W : World) (j : Nat) (c : Value), Turned [b] W (W.setCell ⟨b, j, none⟩ c) := fun W j c => Turned.of_grown (grown_set W b j c) _ (fun k hk => by cases hk; simp)
  exact (((((st w 0 c0).trans (st _ 1 c1) (by simp)).trans (st _ 2 c2) (by simp)).trans (st _ 3 c3) (by simp)).trans (st _ 4 c4) (by simp)).trans (st _ 5 c5) (by simp)

theorem own_of_heap {w : World} {B g N : Nat} {xs : List Int} (h : w.heap[g]? = some (.cells (xs.map (Value.int .i64)).toArray 3 (0, 0))) (hl : xs.length = N) (hB : B ≤ g) (hN : N ≤ maxLen) : w.ownsRow B 3 1 (.slice (some ⟨g, 0, none⟩) N N) N (xs.map (Value.int .i64)) :=
  ⟨by simp [hl], .inr ⟨g, N, _, rfl, hB, h, Nat.le_refl _, hN, by simp [hl], by simp only [Nat.mul_one]; rw [List.take_of_length_le (by simp [hl])]⟩⟩

structure CBase (w2 : World) (b4 ig g m z N : Nat) (its arr : List Int) (c3 c4 c5 : Value) (w : World) : Prop where
  fb : w.heap[b4]? = some (.cells #[.slice (some ⟨ig, 0, none⟩) m m, .int .i64 z, .slice (some ⟨g, 0, none⟩) N N, c3, c4, c5] 76 (0, 0))
  fi : w.heap[ig]? = some (.cells (its.map (Value.int .i64)).toArray 3 (0, 0))
  fg : w.heap[g]? = some (.cells (arr.map (Value.int .i64)).toArray 3 (0, 0))
  below : Below w2.heap.size w2 w

theorem CBase.turned {w2 : World} {b4 ig g m z N : Nat} {its arr : List Int} {c3 c4 c5 : Value} {w w' : World} {S : List Nat} (h : CBase w2 b4 ig g m z N its arr c3 c4 c5 w) (ht : Turned S w w') (h1 : b4 ∉ S) (h2 : ig ∉ S) (h3 : g ∉ S) (h4 : ∀ k ∈ S, w2.heap.size ≤ k) : CBase w2 b4 ig g m z N its arr c3 c4 c5 w' :=
  ⟨ht.keep h.fb h1, ht.keep h.fi h2, ht.keep h.fg h3, h.below.trans (ht.below h.below.size h4)⟩

/-- k writes are laid. -/
structure L1 (w2 : World) (b4 ig g m z N H : Nat) (zs : List Tri) (k : Nat) (its arr : List Int) (w : World) : Prop where
  base : CBase w2 b4 ig g m z N its arr (.slice none 0 0) (.int .i64 0) (.slice none 0 0) w
  il : its.length = m
  isMin : IsMin H arr
  it : ∀ (j : Nat) (x : Tri), j < k → zs[j]? = some x → iAt its j = x.1
  ar : ∀ (j : Nat) (x : Tri), j < k → zs[j]? = some x → iAt arr (z + j) = x.2.1
  out : ∀ j, k ≤ j → j < z → iAt arr (z + j) = 9223372036854775807

/-- The ends of the first j reads. -/
def ends (ur : List Tri) (j : Nat) : List Int := (ur.take j).flatMap fun r => [r.1, r.2.1]

structure L2 (w2 : World) (b4 ig g m z N : Nat) (its arr : List Int) (ur : List Tri) (j : Nat) (c3 : Value) (w : World) : Prop where
  base : CBase w2 b4 ig g m z N its arr c3 (.int .i64 0) (.slice none 0 0) w
  own : w.ownsRow w2.heap.size 3 1 c3 (2 * j) ((ends ur j).map (Value.int .i64))
  far : ∀ blk, c3.ownBlock = some blk → blk ≠ b4 ∧ blk ≠ ig ∧ blk ≠ g

theorem own_srow {w : World} {B n : Nat} {v : Value} {xs : List Int} (h : w.ownsRow B 3 1 v n (xs.map (Value.int .i64))) : ∃ a cap g, v = .slice a n cap ∧ SRow w a cap g xs ∧ n = xs.length ∧ (0 < xs.length → v.ownBlock = some g ∧ B ≤ g) ∧ (0 < w.heap.size → g < w.heap.size) := by
  have hn : n = xs.length := by have := h.1; simp at this; omega
  rcases h.2 with ⟨h0, h1⟩ | ⟨g, c, cur, hv, h1, h2, h3, h4, h5, h6⟩
  · subst h1
    exact ⟨none, 0, 0, h0, ⟨fun h => by omega, fun h => by omega, by omega, fun h => by omega⟩, hn, (fun h => by omega), fun h => h⟩
  · refine ⟨_, c, g, hv, ⟨fun _ => rfl, fun _ => (Array.getElem?_eq_some_iff.1 h2).1, by omega, fun _ => ?_⟩, hn, fun _ => ⟨by rw [hv]; rfl, h1⟩, fun _ => (Array.getElem?_eq_some_iff.1 h2).1⟩
    intro j hj
    have hj' : j < xs.length := by simpa using hj
    refine ⟨?_, frozen_of_row w g _ _ _ h2⟩
    rw [Nat.zero_add, cell_of_row w g j _ _ _ h2, getElem!_pos xs.toArray j hj]
    have h7 : (cur.toList.take (n * 1))[j]? = some (Value.int .i64 xs[j]) := by rw [h6]; simp [hj']
    rw [List.getElem?_take, if_pos (by omega)] at h7
    simpa using h7

def Cells1 (W : World) (g : Nat) (bs : List Int) : Prop := ∀ j, j < bs.length → W.cell? ⟨g, j, none⟩ = some (.int .i64 (iAt bs j))

structure L3 (w2 : World) (b4 ig g m z N : Nat) (its arr : List Int) (a3 : Option Addr) (nb cap3 g3 z2 g2 N2 H2 : Nat) (bs : List Int) (ur : List Tri) (j : Nat) (arr2 : List Int) (w : World) : Prop where
  base : CBase w2 b4 ig g m z N its arr (.slice a3 nb cap3) (.int .i64 z2) (.slice (some ⟨g2, 0, none⟩) N2 N2) w
  cells : Cells1 w g3 bs
  f2 : w.heap[g2]? = some (.cells (arr2.map (Value.int .i64)).toArray 3 (0, 0))
  stab : IsStab H2 arr2 ((ur.take j).map fun r => (cntL bs r.1, cntL bs r.2.1, r.2.2)).reverse

theorem iAt_getElem (xs : List Int) (i : Nat) (hi : i < xs.length) : iAt xs i = xs[i] := by
  unfold iAt
  rw [List.getD_eq_getElem?_getD, List.getElem?_eq_getElem hi]
  rfl
theorem iAt_dAt2 (ds : List Int) (v : Nat) (hv : v < ds.length) : iAt ds v = dAt ds v := by
  unfold iAt dAt
  rw [List.getD_eq_getElem?_getD, List.getD_eq_getElem?_getD, List.getElem?_eq_getElem hv]
  rfl
theorem Try.size76 : (Try.prog.info? 76).map (·.size) = some 6 := by kernel_rfl

def NewPost (uw ur : List Tri) (w : World) (e : Ending) (w' : World) : Prop :=
  (∃ F items arr1 bounds arr2, e = .returned (CF.val F) ∧ CFMem w'.heap.size F uw ur items arr1 bounds arr2 w') ∧ Below w.heap.size w w'

set_option maxHeartbeats 12800000 in
set_option maxRecDepth 100000 in
theorem newCf_any (B : Nat) (A : AC) (uw ur : List Tri) (w : World) (hB : B ≤ w.heap.size) (hA : Hid (ACMem B A uw ur w)) (hwl : (A.wl : Int) ≤ 2000) (hrl : (A.rl : Int) ≤ 2000) :
    Calls Try.prog 27 #[A.val] w fun e w' => NewPost uw ur w e w' := by
  obtain ⟨i3, hi3, z30, z31, z32⟩ := info_parts Try.info3
  have hA1 : Hid (∀ W', Below w.heap.size w W' → ACMem B A uw ur W') := hidden fun W' hb => hA.out.below (hb.mono hB)
  unfold AC.val
  go_enter Try.func27, Try.ntmps27
  go_wp2_with (go_at_call 33; refine (values_any _ _ _ _).mono ?_; rintro e w1 ⟨rfl, hw1⟩)
  have hT1 : Turned [] w w1 := by
    rw [← hw1]
    refine Turned.trans (Turned.trans (Turned.of_grown (World.grownBy_alloc w _ none) [] (fun k hk => by cases hk)) (Turned.of_grown (World.grownBy_alloc _ _ none) [] (fun k hk => by cases hk)) (by simp)) (Turned.of_grown (World.grownBy_alloc _ _ none) [] (fun k hk => by cases hk)) (by simp)
  have x0 : w1.heap[w.heap.size]? = some (.cells #[.slice A.wa A.wl A.wc, .slice A.ra A.rl A.rc] 54 (0, 0)) := by
    rw [← hw1, heap_alloc_old _ _ (by simp; omega), heap_alloc_old _ _ (by simp)]
    exact heap_alloc_new w _
  have x1 := congrArg (fun W : World => W.heap[w.heap.size + 1]?) hw1
  have x2 := congrArg (fun W : World => W.heap[w.heap.size + 1 + 1]?) hw1
  rw [heap_alloc_old _ _ (by simp), heap_two] at x1
  rw [heap_three] at x2
  have s1 : w1.heap.size = w.heap.size + 3 := by rw [← hw1]; simp
  have hb1 := hT1.below (Nat.le_refl _) (by simp)
  clear hw1
  have hcb := cell_of_row w1 (w.heap.size + 1 + 1) 0 _ _ _ x2.symm
  simp only [List.getElem?_toArray, List.getElem?_cons_zero] at hcb
  refine (sortedFunc_any (w.heap.size + 1 + 1) (.slice A.wa A.wl A.wc) uw (by have := hA.out.wl; omega) w1 (by omega) hcb (((hA1.out w1 hb1).wr.trow hA.out.wl).mono' (by omega))).mono ?_
  rintro e w2 ⟨v, zs, rfl, hperm, hsort, hrow, hb2⟩
  obtain ⟨sa, sc, sg, rfl, hs3⟩ := hrow.t3 (by rw [hperm.length_eq]; have := hA.out.wl; omega) (by have := hb2.size; omega)
  have y0 := (hb2.block w.heap.size (by omega)).trans x0
  have y1 := (hb2.block (w.heap.size + 1) (by omega)).trans x1.symm
  have hbw2 := hidden (hb1.trans (hb2.mono (by omega)))
  have Y0 := hidden y0
  have Y1 := hidden y1
  have S3 := hidden hs3
  have HP := hidden hperm
  have HS := hidden hsort
  have hlz : (zs.length : Int) ≤ 2000 := by have h1 := hperm.length_eq; have := hA.out.wl; omega
  have hs2 := hb2.size
  clear x0 x1 x2 hb1 hb2 hcb hT1 y0 y1 hs3 hperm hsort hrow
  obtain ⟨m, hm⟩ : ∃ m, zs.length = m := ⟨_, rfl⟩
  have HMZ := hidden hm
  rw [hm] at hlz ⊢
  clear hm
  go_upto_region 2 with fail
  obtain ⟨Z0, hZ0⟩ : ∃ Z0, madeCells #[Value.int .i64 0] m = Z0 := ⟨_, rfl⟩
  have hmk : ∀ W : World, (Instr.makeSlice 22 (.int .i64 (m : Int)) (.int .i64 (m : Int))).run Try.prog W = .ok (.slice (some ⟨W.heap.size, 0, none⟩) m m) (W.alloc (.cells Z0 3)) := fun W => by
    have h := run_make (P := Try.prog) W 22 3 i3 _ Try.underlying22 hi3 z30 .i64 .i64 (m : Int) (m : Int) (by omega) (by omega) (by rw [z32]; omega) (by omega)
    rw [z31, Nat.mul_one, show (Value.int IntKind.i64 0).cells = #[.int .i64 0] from rfl, Int.toNat_natCast, hZ0] at h
    exact h
  have hzl : Z0.toList = (List.replicate m (0 : Int)).map (Value.int .i64) := by
    rw [← hZ0, toList_madeCells_one]
    simp
  have HZL := hidden hzl
  clear hZ0 hzl
  go_cut [4] (fun v4 wc => Hid (Cut2 w2.heap.size m w2 v4 wc))
  case first =>
    refine wp_region_noPanic ?_
    refine wp_region_held_drew (S := fun w' => Below w2.heap.size w2 w') (by kernel_rfl) (below_drewN (Below.refl _ _) 1) (fun hHeld => ?_)
    obtain ⟨u0, hu0⟩ : ∃ u0, w2.drew = u0 := ⟨_, rfl⟩
    rw [hu0] at hHeld ⊢
    clear hu0
    refine wpAnyH_take (i := 0) (v := (.slice sa m sc)) rfl (by kernel_rfl) (by kernel_rfl) (by kernel_rfl) (fun _ _ _ h => h) (Or.inl ⟨by rfl, ?_⟩) hHeld ?_
    · intro w hSw
      go_simp
    try simp only [Act.put, List.getElem_toArray, List.getElem_cons_succ, List.getElem_cons_zero, List.setIfInBounds_toArray, List.set_cons_zero, List.set_cons_succ]
    refine wpAnyH_take (i := 1) (v := (.int .i64 m)) rfl (by kernel_rfl) (by kernel_rfl) (by kernel_rfl) (fun _ _ _ h => h) (Or.inl ⟨by rfl, ?_⟩) hHeld ?_
    · intro w hSw
      go_simp
    try simp only [Act.put, List.getElem_toArray, List.getElem_cons_succ, List.getElem_cons_zero, List.setIfInBounds_toArray, List.set_cons_zero, List.set_cons_succ]
    refine wpAnyH_take (i := 3) (v := (.slice sa m sc)) rfl (by kernel_rfl) (by kernel_rfl) (by kernel_rfl) (fun _ _ _ h => h) (Or.inl ⟨by rfl, ?_⟩) hHeld ?_
    · intro w hSw
      go_simp
    try simp only [Act.put, List.getElem_toArray, List.getElem_cons_succ, List.getElem_cons_zero, List.setIfInBounds_toArray, List.set_cons_zero, List.set_cons_succ]
    refine wpAnyH_take (i := 4) (v := (.int .i64 m)) rfl (by kernel_rfl) (by kernel_rfl) (by kernel_rfl) (fun _ _ _ h => h) (Or.inl ⟨by rfl, ?_⟩) hHeld ?_
    · intro w hSw
      go_simp
    try simp only [Act.put, List.getElem_toArray, List.getElem_cons_succ, List.getElem_cons_zero, List.setIfInBounds_toArray, List.set_cons_zero, List.set_cons_succ]
    refine wpAnyH_ready (rs := [2, 5, 7]) (by kernel_rfl) (by simp) (AllReadyH.cons rfl (fun K hK => ?_) (AllReadyH.cons rfl (fun K hK => ?_) (AllReadyH.cons rfl (fun K hK => ?_) AllReadyH.nil)))
    · go_simp
      refine hK.out _ _ (hHeld.alloc hHeld.size _) (fun hHeld2 => ?_)
      obtain ⟨u1, hV⟩ : ∃ u1, u0.alloc (.cells Z0 3) = u1 := ⟨_, rfl⟩
      rw [hV] at hHeld2 ⊢
      have t1 : Turned [] u0 u1 := by rw [← hV]; exact Turned.of_grown (World.grownBy_alloc u0 _ none) [] (fun k hk => by cases hk)
      have fi : u1.heap[u0.heap.size]? = some (.cells Z0 3 (0, 0)) := by rw [← hV]; exact heap_alloc_new u0 _
      obtain ⟨ig, hig⟩ : ∃ ig, u0.heap.size = ig := ⟨_, rfl⟩
      rw [hig] at fi ⊢
      have li : w2.heap.size ≤ ig := by rw [← hig]; exact hHeld.size
      have si : ig < u1.heap.size := (Array.getElem?_eq_some_iff.1 fi).1
      clear hK hHeld
      have hHeld := hHeld2
      clear hHeld2
      try simp only [Act.put, List.getElem_toArray, List.getElem_cons_succ, List.getElem_cons_zero, List.setIfInBounds_toArray, List.set_cons_zero, List.set_cons_succ]
      refine wpAnyH_ready (rs := [5, 7]) (by kernel_rfl) (by simp) (AllReadyH.cons rfl (fun K hK => ?_) (AllReadyH.cons rfl (fun K hK => ?_) AllReadyH.nil))
      · go_simp
        refine (newMinTree_any m u1 (by omega)).mono ?_
        rintro e u2 ⟨⟨z, g, rfl, hz, ho⟩, hb3⟩
        dsimp only
        refine hK.out _ _ (hHeld.trans (hb3.mono hHeld.size)) (fun hHeld2 => ?_)
        have t2 : Turned [] u1 u2 := Turned.of_below hb3 (Nat.le_refl _)
        have fg := own_row_heap ho
        have lg : w2.heap.size ≤ g := Nat.le_trans hHeld.size (ho.lt g rfl).1
        have sg' : u1.heap.size ≤ g := (ho.lt g rfl).1
        have sgg : g < u2.heap.size := (Array.getElem?_eq_some_iff.1 fg).1
        clear ho hb3
        clear hK hHeld
        have hHeld := hHeld2
        clear hHeld2
        try simp only [Act.put, List.getElem_toArray, List.getElem_cons_succ, List.getElem_cons_zero, List.setIfInBounds_toArray, List.set_cons_zero, List.set_cons_succ]
        have fi := t2.keep fi (by simp)
        refine wpAnyH_take (i := 6) (v := (.agg #[.slice (some ⟨ig, 0, none⟩) m m, .int .i64 z, .slice (some ⟨g, 0, none⟩) (2 * z) (2 * z), .slice none 0 0, .int .i64 0, .slice none 0 0])) rfl (by kernel_rfl) (by kernel_rfl) (by kernel_rfl) (fun _ _ _ h => h) (Or.inl ⟨by rfl, ?_⟩) hHeld ?_
        · intro w hSw
          go_simp
        try simp only [Act.put, List.getElem_toArray, List.getElem_cons_succ, List.getElem_cons_zero, List.setIfInBounds_toArray, List.set_cons_zero, List.set_cons_succ]
        refine wpAnyH_ready (rs := [7]) (by kernel_rfl) (by simp) (AllReadyH.cons rfl (fun K hK => ?_) AllReadyH.nil)
        go_simp
        refine hK.out _ _ (hHeld.alloc hHeld.size _) (fun hHeld2 => ?_)
        obtain ⟨u3, hV⟩ : ∃ u3, u2.alloc (.cells #[.slice none 0 0, .int .i64 0, .slice none 0 0, .slice none 0 0, .int .i64 0, .slice none 0 0] 76) = u3 := ⟨_, rfl⟩
        rw [hV] at hHeld2 ⊢
        have t3 : Turned [] u2 u3 := by rw [← hV]; exact Turned.of_grown (World.grownBy_alloc u2 _ none) [] (fun k hk => by cases hk)
        have fb : u3.heap[u2.heap.size]? = some (.cells #[.slice none 0 0, .int .i64 0, .slice none 0 0, .slice none 0 0, .int .i64 0, .slice none 0 0] 76 (0, 0)) := by rw [← hV]; exact heap_alloc_new u2 _
        obtain ⟨b4, hb4⟩ : ∃ b4, u2.heap.size = b4 := ⟨_, rfl⟩
        rw [hb4] at fb ⊢
        have lb : w2.heap.size ≤ b4 := by rw [← hb4]; exact hHeld.size
        have sb : b4 < u3.heap.size := (Array.getElem?_eq_some_iff.1 fb).1
        clear hK hHeld
        have hHeld := hHeld2
        clear hHeld2
        try simp only [Act.put, List.getElem_toArray, List.getElem_cons_succ, List.getElem_cons_zero, List.setIfInBounds_toArray, List.set_cons_zero, List.set_cons_succ]
        have fi := t3.keep fi (by simp)
        have fg := t3.keep fg (by simp)
        have k0 := cell_of_row u3 b4 0 _ _ _ fb
        have k1 := cell_of_row u3 b4 1 _ _ _ fb
        have k2 := cell_of_row u3 b4 2 _ _ _ fb
        have k3 := cell_of_row u3 b4 3 _ _ _ fb
        have k4 := cell_of_row u3 b4 4 _ _ _ fb
        have k5 := cell_of_row u3 b4 5 _ _ _ fb
        have kf := fun j => frozen_of_row u3 b4 j _ _ fb
        simp only [List.getElem?_toArray, List.getElem?_cons_zero, List.getElem?_cons_succ] at k0 k1 k2 k3 k4 k5
        refine wpAnyH_ready (rs := [8]) (by kernel_rfl) (by simp) (AllReadyH.cons rfl (fun K hK => ?_) AllReadyH.nil)
        go_simp
        obtain ⟨u4, hu4⟩ : ∃ u4, ((((((u3.setCell ⟨b4, 0, none⟩ (.slice (some ⟨ig, 0, none⟩) m m)).setCell ⟨b4, 1, none⟩ (.int .i64 z)).setCell ⟨b4, 2, none⟩ (.slice (some ⟨g, 0, none⟩) (2 * z) (2 * z))).setCell ⟨b4, 3, none⟩ (.slice none 0 0)).setCell ⟨b4, 4, none⟩ (.int .i64 0)).setCell ⟨b4, 5, none⟩ (.slice none 0 0)) = u4 := ⟨_, rfl⟩
        rw [hu4]
        obtain ⟨fb4, t4⟩ := set6 u3 b4 76 _ _ _ _ _ _ (.slice (some ⟨ig, 0, none⟩) m m) (.int .i64 z) (.slice (some ⟨g, 0, none⟩) (2 * z) (2 * z)) (.slice none 0 0) (.int .i64 0) (.slice none 0 0) fb
        rw [hu4] at fb4 t4
        have hH4 : Below w2.heap.size w2 u4 := hHeld.trans (t4.below hHeld.size (by simpa using lb))
        have C2 : Hid (Cut2 w2.heap.size m w2 (.pointer (some ⟨b4, 0, none⟩)) u4) := hidden ⟨b4, ig, z, g, 2 * z, rfl, fb4, by rw [← HZL.out]; exact t4.keep fi (by simp; omega), t4.keep fg (by simp; omega), hz, rfl, by omega, by omega, by omega, lb, li, lg, hH4⟩
        refine hK.out _ _ hH4 (fun hHeld2 => ?_)
        clear hK hHeld hHeld2 hu4 fb4 t4 hH4 k0 k1 k2 k3 k4 k5 kf fi fg fb
        try simp only [Act.put, List.getElem_toArray, List.getElem_cons_succ, List.getElem_cons_zero, List.setIfInBounds_toArray, List.set_cons_zero, List.set_cons_succ]
        refine wpAnyH_done (by kernel_rfl) ?_ _
        refine NoPanic.normal ?_
        go_wp2_with fail
        go_meet
        exact C2
      · go_simp
        refine hK.out _ _ (hHeld.alloc hHeld.size _) (fun hHeld2 => ?_)
        obtain ⟨u2, hV⟩ : ∃ u2, u1.alloc (.cells #[.slice none 0 0, .int .i64 0, .slice none 0 0, .slice none 0 0, .int .i64 0, .slice none 0 0] 76) = u2 := ⟨_, rfl⟩
        rw [hV] at hHeld2 ⊢
        have t2 : Turned [] u1 u2 := by rw [← hV]; exact Turned.of_grown (World.grownBy_alloc u1 _ none) [] (fun k hk => by cases hk)
        have fb : u2.heap[u1.heap.size]? = some (.cells #[.slice none 0 0, .int .i64 0, .slice none 0 0, .slice none 0 0, .int .i64 0, .slice none 0 0] 76 (0, 0)) := by rw [← hV]; exact heap_alloc_new u1 _
        obtain ⟨b4, hb4⟩ : ∃ b4, u1.heap.size = b4 := ⟨_, rfl⟩
        rw [hb4] at fb ⊢
        have lb : w2.heap.size ≤ b4 := by rw [← hb4]; exact hHeld.size
        have sb : b4 < u2.heap.size := (Array.getElem?_eq_some_iff.1 fb).1
        clear hK hHeld
        have hHeld := hHeld2
        clear hHeld2
        try simp only [Act.put, List.getElem_toArray, List.getElem_cons_succ, List.getElem_cons_zero, List.setIfInBounds_toArray, List.set_cons_zero, List.set_cons_succ]
        have fi := t2.keep fi (by simp)
        refine wpAnyH_ready (rs := [5]) (by kernel_rfl) (by simp) (AllReadyH.cons rfl (fun K hK => ?_) AllReadyH.nil)
        go_simp
        refine (newMinTree_any m u2 (by omega)).mono ?_
        rintro e u3 ⟨⟨z, g, rfl, hz, ho⟩, hb3⟩
        dsimp only
        refine hK.out _ _ (hHeld.trans (hb3.mono hHeld.size)) (fun hHeld2 => ?_)
        have t3 : Turned [] u2 u3 := Turned.of_below hb3 (Nat.le_refl _)
        have fg := own_row_heap ho
        have lg : w2.heap.size ≤ g := Nat.le_trans hHeld.size (ho.lt g rfl).1
        have sg' : u2.heap.size ≤ g := (ho.lt g rfl).1
        have sgg : g < u3.heap.size := (Array.getElem?_eq_some_iff.1 fg).1
        clear ho hb3
        clear hK hHeld
        have hHeld := hHeld2
        clear hHeld2
        try simp only [Act.put, List.getElem_toArray, List.getElem_cons_succ, List.getElem_cons_zero, List.setIfInBounds_toArray, List.set_cons_zero, List.set_cons_succ]
        have fi := t3.keep fi (by simp)
        have fb := t3.keep fb (by simp)
        refine wpAnyH_take (i := 6) (v := (.agg #[.slice (some ⟨ig, 0, none⟩) m m, .int .i64 z, .slice (some ⟨g, 0, none⟩) (2 * z) (2 * z), .slice none 0 0, .int .i64 0, .slice none 0 0])) rfl (by kernel_rfl) (by kernel_rfl) (by kernel_rfl) (fun _ _ _ h => h) (Or.inl ⟨by rfl, ?_⟩) hHeld ?_
        · intro w hSw
          go_simp
        try simp only [Act.put, List.getElem_toArray, List.getElem_cons_succ, List.getElem_cons_zero, List.setIfInBounds_toArray, List.set_cons_zero, List.set_cons_succ]
        have k0 := cell_of_row u3 b4 0 _ _ _ fb
        have k1 := cell_of_row u3 b4 1 _ _ _ fb
        have k2 := cell_of_row u3 b4 2 _ _ _ fb
        have k3 := cell_of_row u3 b4 3 _ _ _ fb
        have k4 := cell_of_row u3 b4 4 _ _ _ fb
        have k5 := cell_of_row u3 b4 5 _ _ _ fb
        have kf := fun j => frozen_of_row u3 b4 j _ _ fb
        simp only [List.getElem?_toArray, List.getElem?_cons_zero, List.getElem?_cons_succ] at k0 k1 k2 k3 k4 k5
        refine wpAnyH_ready (rs := [8]) (by kernel_rfl) (by simp) (AllReadyH.cons rfl (fun K hK => ?_) AllReadyH.nil)
        go_simp
        obtain ⟨u4, hu4⟩ : ∃ u4, ((((((u3.setCell ⟨b4, 0, none⟩ (.slice (some ⟨ig, 0, none⟩) m m)).setCell ⟨b4, 1, none⟩ (.int .i64 z)).setCell ⟨b4, 2, none⟩ (.slice (some ⟨g, 0, none⟩) (2 * z) (2 * z))).setCell ⟨b4, 3, none⟩ (.slice none 0 0)).setCell ⟨b4, 4, none⟩ (.int .i64 0)).setCell ⟨b4, 5, none⟩ (.slice none 0 0)) = u4 := ⟨_, rfl⟩
        rw [hu4]
        obtain ⟨fb4, t4⟩ := set6 u3 b4 76 _ _ _ _ _ _ (.slice (some ⟨ig, 0, none⟩) m m) (.int .i64 z) (.slice (some ⟨g, 0, none⟩) (2 * z) (2 * z)) (.slice none 0 0) (.int .i64 0) (.slice none 0 0) fb
        rw [hu4] at fb4 t4
        have hH4 : Below w2.heap.size w2 u4 := hHeld.trans (t4.below hHeld.size (by simpa using lb))
        have C2 : Hid (Cut2 w2.heap.size m w2 (.pointer (some ⟨b4, 0, none⟩)) u4) := hidden ⟨b4, ig, z, g, 2 * z, rfl, fb4, by rw [← HZL.out]; exact t4.keep fi (by simp; omega), t4.keep fg (by simp; omega), hz, rfl, by omega, by omega, by omega, lb, li, lg, hH4⟩
        refine hK.out _ _ hH4 (fun hHeld2 => ?_)
        clear hK hHeld hHeld2 hu4 fb4 t4 hH4 k0 k1 k2 k3 k4 k5 kf fi fg fb
        try simp only [Act.put, List.getElem_toArray, List.getElem_cons_succ, List.getElem_cons_zero, List.setIfInBounds_toArray, List.set_cons_zero, List.set_cons_succ]
        refine wpAnyH_done (by kernel_rfl) ?_ _
        refine NoPanic.normal ?_
        go_wp2_with fail
        go_meet
        exact C2
    · go_simp
      refine (newMinTree_any m u0 (by omega)).mono ?_
      rintro e u1 ⟨⟨z, g, rfl, hz, ho⟩, hb3⟩
      dsimp only
      refine hK.out _ _ (hHeld.trans (hb3.mono hHeld.size)) (fun hHeld2 => ?_)
      have t1 : Turned [] u0 u1 := Turned.of_below hb3 (Nat.le_refl _)
      have fg := own_row_heap ho
      have lg : w2.heap.size ≤ g := Nat.le_trans hHeld.size (ho.lt g rfl).1
      have sg' : u0.heap.size ≤ g := (ho.lt g rfl).1
      have sgg : g < u1.heap.size := (Array.getElem?_eq_some_iff.1 fg).1
      clear ho hb3
      clear hK hHeld
      have hHeld := hHeld2
      clear hHeld2
      try simp only [Act.put, List.getElem_toArray, List.getElem_cons_succ, List.getElem_cons_zero, List.setIfInBounds_toArray, List.set_cons_zero, List.set_cons_succ]
      refine wpAnyH_ready (rs := [2, 7]) (by kernel_rfl) (by simp) (AllReadyH.cons rfl (fun K hK => ?_) (AllReadyH.cons rfl (fun K hK => ?_) AllReadyH.nil))
      · go_simp
        refine hK.out _ _ (hHeld.alloc hHeld.size _) (fun hHeld2 => ?_)
        obtain ⟨u2, hV⟩ : ∃ u2, u1.alloc (.cells Z0 3) = u2 := ⟨_, rfl⟩
        rw [hV] at hHeld2 ⊢
        have t2 : Turned [] u1 u2 := by rw [← hV]; exact Turned.of_grown (World.grownBy_alloc u1 _ none) [] (fun k hk => by cases hk)
        have fi : u2.heap[u1.heap.size]? = some (.cells Z0 3 (0, 0)) := by rw [← hV]; exact heap_alloc_new u1 _
        obtain ⟨ig, hig⟩ : ∃ ig, u1.heap.size = ig := ⟨_, rfl⟩
        rw [hig] at fi ⊢
        have li : w2.heap.size ≤ ig := by rw [← hig]; exact hHeld.size
        have si : ig < u2.heap.size := (Array.getElem?_eq_some_iff.1 fi).1
        clear hK hHeld
        have hHeld := hHeld2
        clear hHeld2
        try simp only [Act.put, List.getElem_toArray, List.getElem_cons_succ, List.getElem_cons_zero, List.setIfInBounds_toArray, List.set_cons_zero, List.set_cons_succ]
        have fg := t2.keep fg (by simp)
        refine wpAnyH_take (i := 6) (v := (.agg #[.slice (some ⟨ig, 0, none⟩) m m, .int .i64 z, .slice (some ⟨g, 0, none⟩) (2 * z) (2 * z), .slice none 0 0, .int .i64 0, .slice none 0 0])) rfl (by kernel_rfl) (by kernel_rfl) (by kernel_rfl) (fun _ _ _ h => h) (Or.inl ⟨by rfl, ?_⟩) hHeld ?_
        · intro w hSw
          go_simp
        try simp only [Act.put, List.getElem_toArray, List.getElem_cons_succ, List.getElem_cons_zero, List.setIfInBounds_toArray, List.set_cons_zero, List.set_cons_succ]
        refine wpAnyH_ready (rs := [7]) (by kernel_rfl) (by simp) (AllReadyH.cons rfl (fun K hK => ?_) AllReadyH.nil)
        go_simp
        refine hK.out _ _ (hHeld.alloc hHeld.size _) (fun hHeld2 => ?_)
        obtain ⟨u3, hV⟩ : ∃ u3, u2.alloc (.cells #[.slice none 0 0, .int .i64 0, .slice none 0 0, .slice none 0 0, .int .i64 0, .slice none 0 0] 76) = u3 := ⟨_, rfl⟩
        rw [hV] at hHeld2 ⊢
        have t3 : Turned [] u2 u3 := by rw [← hV]; exact Turned.of_grown (World.grownBy_alloc u2 _ none) [] (fun k hk => by cases hk)
        have fb : u3.heap[u2.heap.size]? = some (.cells #[.slice none 0 0, .int .i64 0, .slice none 0 0, .slice none 0 0, .int .i64 0, .slice none 0 0] 76 (0, 0)) := by rw [← hV]; exact heap_alloc_new u2 _
        obtain ⟨b4, hb4⟩ : ∃ b4, u2.heap.size = b4 := ⟨_, rfl⟩
        rw [hb4] at fb ⊢
        have lb : w2.heap.size ≤ b4 := by rw [← hb4]; exact hHeld.size
        have sb : b4 < u3.heap.size := (Array.getElem?_eq_some_iff.1 fb).1
        clear hK hHeld
        have hHeld := hHeld2
        clear hHeld2
        try simp only [Act.put, List.getElem_toArray, List.getElem_cons_succ, List.getElem_cons_zero, List.setIfInBounds_toArray, List.set_cons_zero, List.set_cons_succ]
        have fi := t3.keep fi (by simp)
        have fg := t3.keep fg (by simp)
        have k0 := cell_of_row u3 b4 0 _ _ _ fb
        have k1 := cell_of_row u3 b4 1 _ _ _ fb
        have k2 := cell_of_row u3 b4 2 _ _ _ fb
        have k3 := cell_of_row u3 b4 3 _ _ _ fb
        have k4 := cell_of_row u3 b4 4 _ _ _ fb
        have k5 := cell_of_row u3 b4 5 _ _ _ fb
        have kf := fun j => frozen_of_row u3 b4 j _ _ fb
        simp only [List.getElem?_toArray, List.getElem?_cons_zero, List.getElem?_cons_succ] at k0 k1 k2 k3 k4 k5
        refine wpAnyH_ready (rs := [8]) (by kernel_rfl) (by simp) (AllReadyH.cons rfl (fun K hK => ?_) AllReadyH.nil)
        go_simp
        obtain ⟨u4, hu4⟩ : ∃ u4, ((((((u3.setCell ⟨b4, 0, none⟩ (.slice (some ⟨ig, 0, none⟩) m m)).setCell ⟨b4, 1, none⟩ (.int .i64 z)).setCell ⟨b4, 2, none⟩ (.slice (some ⟨g, 0, none⟩) (2 * z) (2 * z))).setCell ⟨b4, 3, none⟩ (.slice none 0 0)).setCell ⟨b4, 4, none⟩ (.int .i64 0)).setCell ⟨b4, 5, none⟩ (.slice none 0 0)) = u4 := ⟨_, rfl⟩
        rw [hu4]
        obtain ⟨fb4, t4⟩ := set6 u3 b4 76 _ _ _ _ _ _ (.slice (some ⟨ig, 0, none⟩) m m) (.int .i64 z) (.slice (some ⟨g, 0, none⟩) (2 * z) (2 * z)) (.slice none 0 0) (.int .i64 0) (.slice none 0 0) fb
        rw [hu4] at fb4 t4
        have hH4 : Below w2.heap.size w2 u4 := hHeld.trans (t4.below hHeld.size (by simpa using lb))
        have C2 : Hid (Cut2 w2.heap.size m w2 (.pointer (some ⟨b4, 0, none⟩)) u4) := hidden ⟨b4, ig, z, g, 2 * z, rfl, fb4, by rw [← HZL.out]; exact t4.keep fi (by simp; omega), t4.keep fg (by simp; omega), hz, rfl, by omega, by omega, by omega, lb, li, lg, hH4⟩
        refine hK.out _ _ hH4 (fun hHeld2 => ?_)
        clear hK hHeld hHeld2 hu4 fb4 t4 hH4 k0 k1 k2 k3 k4 k5 kf fi fg fb
        try simp only [Act.put, List.getElem_toArray, List.getElem_cons_succ, List.getElem_cons_zero, List.setIfInBounds_toArray, List.set_cons_zero, List.set_cons_succ]
        refine wpAnyH_done (by kernel_rfl) ?_ _
        refine NoPanic.normal ?_
        go_wp2_with fail
        go_meet
        exact C2
      · go_simp
        refine hK.out _ _ (hHeld.alloc hHeld.size _) (fun hHeld2 => ?_)
        obtain ⟨u2, hV⟩ : ∃ u2, u1.alloc (.cells #[.slice none 0 0, .int .i64 0, .slice none 0 0, .slice none 0 0, .int .i64 0, .slice none 0 0] 76) = u2 := ⟨_, rfl⟩
        rw [hV] at hHeld2 ⊢
        have t2 : Turned [] u1 u2 := by rw [← hV]; exact Turned.of_grown (World.grownBy_alloc u1 _ none) [] (fun k hk => by cases hk)
        have fb : u2.heap[u1.heap.size]? = some (.cells #[.slice none 0 0, .int .i64 0, .slice none 0 0, .slice none 0 0, .int .i64 0, .slice none 0 0] 76 (0, 0)) := by rw [← hV]; exact heap_alloc_new u1 _
        obtain ⟨b4, hb4⟩ : ∃ b4, u1.heap.size = b4 := ⟨_, rfl⟩
        rw [hb4] at fb ⊢
        have lb : w2.heap.size ≤ b4 := by rw [← hb4]; exact hHeld.size
        have sb : b4 < u2.heap.size := (Array.getElem?_eq_some_iff.1 fb).1
        clear hK hHeld
        have hHeld := hHeld2
        clear hHeld2
        try simp only [Act.put, List.getElem_toArray, List.getElem_cons_succ, List.getElem_cons_zero, List.setIfInBounds_toArray, List.set_cons_zero, List.set_cons_succ]
        have fg := t2.keep fg (by simp)
        refine wpAnyH_ready (rs := [2]) (by kernel_rfl) (by simp) (AllReadyH.cons rfl (fun K hK => ?_) AllReadyH.nil)
        go_simp
        refine hK.out _ _ (hHeld.alloc hHeld.size _) (fun hHeld2 => ?_)
        obtain ⟨u3, hV⟩ : ∃ u3, u2.alloc (.cells Z0 3) = u3 := ⟨_, rfl⟩
        rw [hV] at hHeld2 ⊢
        have t3 : Turned [] u2 u3 := by rw [← hV]; exact Turned.of_grown (World.grownBy_alloc u2 _ none) [] (fun k hk => by cases hk)
        have fi : u3.heap[u2.heap.size]? = some (.cells Z0 3 (0, 0)) := by rw [← hV]; exact heap_alloc_new u2 _
        obtain ⟨ig, hig⟩ : ∃ ig, u2.heap.size = ig := ⟨_, rfl⟩
        rw [hig] at fi ⊢
        have li : w2.heap.size ≤ ig := by rw [← hig]; exact hHeld.size
        have si : ig < u3.heap.size := (Array.getElem?_eq_some_iff.1 fi).1
        clear hK hHeld
        have hHeld := hHeld2
        clear hHeld2
        try simp only [Act.put, List.getElem_toArray, List.getElem_cons_succ, List.getElem_cons_zero, List.setIfInBounds_toArray, List.set_cons_zero, List.set_cons_succ]
        have fg := t3.keep fg (by simp)
        have fb := t3.keep fb (by simp)
        refine wpAnyH_take (i := 6) (v := (.agg #[.slice (some ⟨ig, 0, none⟩) m m, .int .i64 z, .slice (some ⟨g, 0, none⟩) (2 * z) (2 * z), .slice none 0 0, .int .i64 0, .slice none 0 0])) rfl (by kernel_rfl) (by kernel_rfl) (by kernel_rfl) (fun _ _ _ h => h) (Or.inl ⟨by rfl, ?_⟩) hHeld ?_
        · intro w hSw
          go_simp
        try simp only [Act.put, List.getElem_toArray, List.getElem_cons_succ, List.getElem_cons_zero, List.setIfInBounds_toArray, List.set_cons_zero, List.set_cons_succ]
        have k0 := cell_of_row u3 b4 0 _ _ _ fb
        have k1 := cell_of_row u3 b4 1 _ _ _ fb
        have k2 := cell_of_row u3 b4 2 _ _ _ fb
        have k3 := cell_of_row u3 b4 3 _ _ _ fb
        have k4 := cell_of_row u3 b4 4 _ _ _ fb
        have k5 := cell_of_row u3 b4 5 _ _ _ fb
        have kf := fun j => frozen_of_row u3 b4 j _ _ fb
        simp only [List.getElem?_toArray, List.getElem?_cons_zero, List.getElem?_cons_succ] at k0 k1 k2 k3 k4 k5
        refine wpAnyH_ready (rs := [8]) (by kernel_rfl) (by simp) (AllReadyH.cons rfl (fun K hK => ?_) AllReadyH.nil)
        go_simp
        obtain ⟨u4, hu4⟩ : ∃ u4, ((((((u3.setCell ⟨b4, 0, none⟩ (.slice (some ⟨ig, 0, none⟩) m m)).setCell ⟨b4, 1, none⟩ (.int .i64 z)).setCell ⟨b4, 2, none⟩ (.slice (some ⟨g, 0, none⟩) (2 * z) (2 * z))).setCell ⟨b4, 3, none⟩ (.slice none 0 0)).setCell ⟨b4, 4, none⟩ (.int .i64 0)).setCell ⟨b4, 5, none⟩ (.slice none 0 0)) = u4 := ⟨_, rfl⟩
        rw [hu4]
        obtain ⟨fb4, t4⟩ := set6 u3 b4 76 _ _ _ _ _ _ (.slice (some ⟨ig, 0, none⟩) m m) (.int .i64 z) (.slice (some ⟨g, 0, none⟩) (2 * z) (2 * z)) (.slice none 0 0) (.int .i64 0) (.slice none 0 0) fb
        rw [hu4] at fb4 t4
        have hH4 : Below w2.heap.size w2 u4 := hHeld.trans (t4.below hHeld.size (by simpa using lb))
        have C2 : Hid (Cut2 w2.heap.size m w2 (.pointer (some ⟨b4, 0, none⟩)) u4) := hidden ⟨b4, ig, z, g, 2 * z, rfl, fb4, by rw [← HZL.out]; exact t4.keep fi (by simp; omega), t4.keep fg (by simp; omega), hz, rfl, by omega, by omega, by omega, lb, li, lg, hH4⟩
        refine hK.out _ _ hH4 (fun hHeld2 => ?_)
        clear hK hHeld hHeld2 hu4 fb4 t4 hH4 k0 k1 k2 k3 k4 k5 kf fi fg fb
        try simp only [Act.put, List.getElem_toArray, List.getElem_cons_succ, List.getElem_cons_zero, List.setIfInBounds_toArray, List.set_cons_zero, List.set_cons_succ]
        refine wpAnyH_done (by kernel_rfl) ?_ _
        refine NoPanic.normal ?_
        go_wp2_with fail
        go_meet
        exact C2
    · go_simp
      refine hK.out _ _ (hHeld.alloc hHeld.size _) (fun hHeld2 => ?_)
      obtain ⟨u1, hV⟩ : ∃ u1, u0.alloc (.cells #[.slice none 0 0, .int .i64 0, .slice none 0 0, .slice none 0 0, .int .i64 0, .slice none 0 0] 76) = u1 := ⟨_, rfl⟩
      rw [hV] at hHeld2 ⊢
      have t1 : Turned [] u0 u1 := by rw [← hV]; exact Turned.of_grown (World.grownBy_alloc u0 _ none) [] (fun k hk => by cases hk)
      have fb : u1.heap[u0.heap.size]? = some (.cells #[.slice none 0 0, .int .i64 0, .slice none 0 0, .slice none 0 0, .int .i64 0, .slice none 0 0] 76 (0, 0)) := by rw [← hV]; exact heap_alloc_new u0 _
      obtain ⟨b4, hb4⟩ : ∃ b4, u0.heap.size = b4 := ⟨_, rfl⟩
      rw [hb4] at fb ⊢
      have lb : w2.heap.size ≤ b4 := by rw [← hb4]; exact hHeld.size
      have sb : b4 < u1.heap.size := (Array.getElem?_eq_some_iff.1 fb).1
      clear hK hHeld
      have hHeld := hHeld2
      clear hHeld2
      try simp only [Act.put, List.getElem_toArray, List.getElem_cons_succ, List.getElem_cons_zero, List.setIfInBounds_toArray, List.set_cons_zero, List.set_cons_succ]
      refine wpAnyH_ready (rs := [2, 5]) (by kernel_rfl) (by simp) (AllReadyH.cons rfl (fun K hK => ?_) (AllReadyH.cons rfl (fun K hK => ?_) AllReadyH.nil))
      · go_simp
        refine hK.out _ _ (hHeld.alloc hHeld.size _) (fun hHeld2 => ?_)
        obtain ⟨u2, hV⟩ : ∃ u2, u1.alloc (.cells Z0 3) = u2 := ⟨_, rfl⟩
        rw [hV] at hHeld2 ⊢
        have t2 : Turned [] u1 u2 := by rw [← hV]; exact Turned.of_grown (World.grownBy_alloc u1 _ none) [] (fun k hk => by cases hk)
        have fi : u2.heap[u1.heap.size]? = some (.cells Z0 3 (0, 0)) := by rw [← hV]; exact heap_alloc_new u1 _
        obtain ⟨ig, hig⟩ : ∃ ig, u1.heap.size = ig := ⟨_, rfl⟩
        rw [hig] at fi ⊢
        have li : w2.heap.size ≤ ig := by rw [← hig]; exact hHeld.size
        have si : ig < u2.heap.size := (Array.getElem?_eq_some_iff.1 fi).1
        clear hK hHeld
        have hHeld := hHeld2
        clear hHeld2
        try simp only [Act.put, List.getElem_toArray, List.getElem_cons_succ, List.getElem_cons_zero, List.setIfInBounds_toArray, List.set_cons_zero, List.set_cons_succ]
        have fb := t2.keep fb (by simp)
        refine wpAnyH_ready (rs := [5]) (by kernel_rfl) (by simp) (AllReadyH.cons rfl (fun K hK => ?_) AllReadyH.nil)
        go_simp
        refine (newMinTree_any m u2 (by omega)).mono ?_
        rintro e u3 ⟨⟨z, g, rfl, hz, ho⟩, hb3⟩
        dsimp only
        refine hK.out _ _ (hHeld.trans (hb3.mono hHeld.size)) (fun hHeld2 => ?_)
        have t3 : Turned [] u2 u3 := Turned.of_below hb3 (Nat.le_refl _)
        have fg := own_row_heap ho
        have lg : w2.heap.size ≤ g := Nat.le_trans hHeld.size (ho.lt g rfl).1
        have sg' : u2.heap.size ≤ g := (ho.lt g rfl).1
        have sgg : g < u3.heap.size := (Array.getElem?_eq_some_iff.1 fg).1
        clear ho hb3
        clear hK hHeld
        have hHeld := hHeld2
        clear hHeld2
        try simp only [Act.put, List.getElem_toArray, List.getElem_cons_succ, List.getElem_cons_zero, List.setIfInBounds_toArray, List.set_cons_zero, List.set_cons_succ]
        have fi := t3.keep fi (by simp)
        have fb := t3.keep fb (by simp)
        refine wpAnyH_take (i := 6) (v := (.agg #[.slice (some ⟨ig, 0, none⟩) m m, .int .i64 z, .slice (some ⟨g, 0, none⟩) (2 * z) (2 * z), .slice none 0 0, .int .i64 0, .slice none 0 0])) rfl (by kernel_rfl) (by kernel_rfl) (by kernel_rfl) (fun _ _ _ h => h) (Or.inl ⟨by rfl, ?_⟩) hHeld ?_
        · intro w hSw
          go_simp
        try simp only [Act.put, List.getElem_toArray, List.getElem_cons_succ, List.getElem_cons_zero, List.setIfInBounds_toArray, List.set_cons_zero, List.set_cons_succ]
        have k0 := cell_of_row u3 b4 0 _ _ _ fb
        have k1 := cell_of_row u3 b4 1 _ _ _ fb
        have k2 := cell_of_row u3 b4 2 _ _ _ fb
        have k3 := cell_of_row u3 b4 3 _ _ _ fb
        have k4 := cell_of_row u3 b4 4 _ _ _ fb
        have k5 := cell_of_row u3 b4 5 _ _ _ fb
        have kf := fun j => frozen_of_row u3 b4 j _ _ fb
        simp only [List.getElem?_toArray, List.getElem?_cons_zero, List.getElem?_cons_succ] at k0 k1 k2 k3 k4 k5
        refine wpAnyH_ready (rs := [8]) (by kernel_rfl) (by simp) (AllReadyH.cons rfl (fun K hK => ?_) AllReadyH.nil)
        go_simp
        obtain ⟨u4, hu4⟩ : ∃ u4, ((((((u3.setCell ⟨b4, 0, none⟩ (.slice (some ⟨ig, 0, none⟩) m m)).setCell ⟨b4, 1, none⟩ (.int .i64 z)).setCell ⟨b4, 2, none⟩ (.slice (some ⟨g, 0, none⟩) (2 * z) (2 * z))).setCell ⟨b4, 3, none⟩ (.slice none 0 0)).setCell ⟨b4, 4, none⟩ (.int .i64 0)).setCell ⟨b4, 5, none⟩ (.slice none 0 0)) = u4 := ⟨_, rfl⟩
        rw [hu4]
        obtain ⟨fb4, t4⟩ := set6 u3 b4 76 _ _ _ _ _ _ (.slice (some ⟨ig, 0, none⟩) m m) (.int .i64 z) (.slice (some ⟨g, 0, none⟩) (2 * z) (2 * z)) (.slice none 0 0) (.int .i64 0) (.slice none 0 0) fb
        rw [hu4] at fb4 t4
        have hH4 : Below w2.heap.size w2 u4 := hHeld.trans (t4.below hHeld.size (by simpa using lb))
        have C2 : Hid (Cut2 w2.heap.size m w2 (.pointer (some ⟨b4, 0, none⟩)) u4) := hidden ⟨b4, ig, z, g, 2 * z, rfl, fb4, by rw [← HZL.out]; exact t4.keep fi (by simp; omega), t4.keep fg (by simp; omega), hz, rfl, by omega, by omega, by omega, lb, li, lg, hH4⟩
        refine hK.out _ _ hH4 (fun hHeld2 => ?_)
        clear hK hHeld hHeld2 hu4 fb4 t4 hH4 k0 k1 k2 k3 k4 k5 kf fi fg fb
        try simp only [Act.put, List.getElem_toArray, List.getElem_cons_succ, List.getElem_cons_zero, List.setIfInBounds_toArray, List.set_cons_zero, List.set_cons_succ]
        refine wpAnyH_done (by kernel_rfl) ?_ _
        refine NoPanic.normal ?_
        go_wp2_with fail
        go_meet
        exact C2
      · go_simp
        refine (newMinTree_any m u1 (by omega)).mono ?_
        rintro e u2 ⟨⟨z, g, rfl, hz, ho⟩, hb3⟩
        dsimp only
        refine hK.out _ _ (hHeld.trans (hb3.mono hHeld.size)) (fun hHeld2 => ?_)
        have t2 : Turned [] u1 u2 := Turned.of_below hb3 (Nat.le_refl _)
        have fg := own_row_heap ho
        have lg : w2.heap.size ≤ g := Nat.le_trans hHeld.size (ho.lt g rfl).1
        have sg' : u1.heap.size ≤ g := (ho.lt g rfl).1
        have sgg : g < u2.heap.size := (Array.getElem?_eq_some_iff.1 fg).1
        clear ho hb3
        clear hK hHeld
        have hHeld := hHeld2
        clear hHeld2
        try simp only [Act.put, List.getElem_toArray, List.getElem_cons_succ, List.getElem_cons_zero, List.setIfInBounds_toArray, List.set_cons_zero, List.set_cons_succ]
        have fb := t2.keep fb (by simp)
        refine wpAnyH_ready (rs := [2]) (by kernel_rfl) (by simp) (AllReadyH.cons rfl (fun K hK => ?_) AllReadyH.nil)
        go_simp
        refine hK.out _ _ (hHeld.alloc hHeld.size _) (fun hHeld2 => ?_)
        obtain ⟨u3, hV⟩ : ∃ u3, u2.alloc (.cells Z0 3) = u3 := ⟨_, rfl⟩
        rw [hV] at hHeld2 ⊢
        have t3 : Turned [] u2 u3 := by rw [← hV]; exact Turned.of_grown (World.grownBy_alloc u2 _ none) [] (fun k hk => by cases hk)
        have fi : u3.heap[u2.heap.size]? = some (.cells Z0 3 (0, 0)) := by rw [← hV]; exact heap_alloc_new u2 _
        obtain ⟨ig, hig⟩ : ∃ ig, u2.heap.size = ig := ⟨_, rfl⟩
        rw [hig] at fi ⊢
        have li : w2.heap.size ≤ ig := by rw [← hig]; exact hHeld.size
        have si : ig < u3.heap.size := (Array.getElem?_eq_some_iff.1 fi).1
        clear hK hHeld
        have hHeld := hHeld2
        clear hHeld2
        try simp only [Act.put, List.getElem_toArray, List.getElem_cons_succ, List.getElem_cons_zero, List.setIfInBounds_toArray, List.set_cons_zero, List.set_cons_succ]
        have fg := t3.keep fg (by simp)
        have fb := t3.keep fb (by simp)
        refine wpAnyH_take (i := 6) (v := (.agg #[.slice (some ⟨ig, 0, none⟩) m m, .int .i64 z, .slice (some ⟨g, 0, none⟩) (2 * z) (2 * z), .slice none 0 0, .int .i64 0, .slice none 0 0])) rfl (by kernel_rfl) (by kernel_rfl) (by kernel_rfl) (fun _ _ _ h => h) (Or.inl ⟨by rfl, ?_⟩) hHeld ?_
        · intro w hSw
          go_simp
        try simp only [Act.put, List.getElem_toArray, List.getElem_cons_succ, List.getElem_cons_zero, List.setIfInBounds_toArray, List.set_cons_zero, List.set_cons_succ]
        have k0 := cell_of_row u3 b4 0 _ _ _ fb
        have k1 := cell_of_row u3 b4 1 _ _ _ fb
        have k2 := cell_of_row u3 b4 2 _ _ _ fb
        have k3 := cell_of_row u3 b4 3 _ _ _ fb
        have k4 := cell_of_row u3 b4 4 _ _ _ fb
        have k5 := cell_of_row u3 b4 5 _ _ _ fb
        have kf := fun j => frozen_of_row u3 b4 j _ _ fb
        simp only [List.getElem?_toArray, List.getElem?_cons_zero, List.getElem?_cons_succ] at k0 k1 k2 k3 k4 k5
        refine wpAnyH_ready (rs := [8]) (by kernel_rfl) (by simp) (AllReadyH.cons rfl (fun K hK => ?_) AllReadyH.nil)
        go_simp
        obtain ⟨u4, hu4⟩ : ∃ u4, ((((((u3.setCell ⟨b4, 0, none⟩ (.slice (some ⟨ig, 0, none⟩) m m)).setCell ⟨b4, 1, none⟩ (.int .i64 z)).setCell ⟨b4, 2, none⟩ (.slice (some ⟨g, 0, none⟩) (2 * z) (2 * z))).setCell ⟨b4, 3, none⟩ (.slice none 0 0)).setCell ⟨b4, 4, none⟩ (.int .i64 0)).setCell ⟨b4, 5, none⟩ (.slice none 0 0)) = u4 := ⟨_, rfl⟩
        rw [hu4]
        obtain ⟨fb4, t4⟩ := set6 u3 b4 76 _ _ _ _ _ _ (.slice (some ⟨ig, 0, none⟩) m m) (.int .i64 z) (.slice (some ⟨g, 0, none⟩) (2 * z) (2 * z)) (.slice none 0 0) (.int .i64 0) (.slice none 0 0) fb
        rw [hu4] at fb4 t4
        have hH4 : Below w2.heap.size w2 u4 := hHeld.trans (t4.below hHeld.size (by simpa using lb))
        have C2 : Hid (Cut2 w2.heap.size m w2 (.pointer (some ⟨b4, 0, none⟩)) u4) := hidden ⟨b4, ig, z, g, 2 * z, rfl, fb4, by rw [← HZL.out]; exact t4.keep fi (by simp; omega), t4.keep fg (by simp; omega), hz, rfl, by omega, by omega, by omega, lb, li, lg, hH4⟩
        refine hK.out _ _ hH4 (fun hHeld2 => ?_)
        clear hK hHeld hHeld2 hu4 fb4 t4 hH4 k0 k1 k2 k3 k4 k5 kf fi fg fb
        try simp only [Act.put, List.getElem_toArray, List.getElem_cons_succ, List.getElem_cons_zero, List.setIfInBounds_toArray, List.set_cons_zero, List.set_cons_succ]
        refine wpAnyH_done (by kernel_rfl) ?_ _
        refine NoPanic.normal ?_
        go_wp2_with fail
        go_meet
        exact C2
  case rest =>
    obtain ⟨b4, ig, z, g, N, rfl, fb, fi, fg, hz, hN, n1, n2, n3, l1, l2, l3, hbc⟩ := hcut.out
    obtain ⟨H, hzH, hmz, hzb⟩ := hz
    have HZ := hidden hzH
    have HN := hidden hN
    have hzl : (z : Int) ≤ 4000 := by
      rcases hzb with h | h
      · rw [hzH, h]; decide
      · omega
    have hmz' : (m : Int) ≤ z := by omega
    have HKO := hidden (And.intro n1 (And.intro n2 (And.intro n3 (And.intro l1 (And.intro l2 l3)))))
    have S0 : Hid (L1 w2 b4 ig g m z N H zs 0 (List.replicate m 0) (List.replicate N 9223372036854775807) wc) := hidden ⟨⟨fb, fi, fg, hbc⟩, by simp, by rw [hN, hzH]; exact IsMin.fresh H _, fun j x hj => by omega, fun j x hj => by omega, fun j _ hj => iAt_replicate _ _ _ (by omega)⟩
    clear fb fi fg hbc hcut n1 n2 n3 l1 l2 l3 hzb hN hzH hmz
    go_wp2_with fail
    go_loopw [28] (fun v wr => ∃ (k : Nat) (its arr : List Int), v = .int .i64 k ∧ k ≤ m ∧ Hid (L1 w2 b4 ig g m z N H zs k its arr wr)) (fun v _ => m - (intOf v).toNat)
    case atStart => exact ⟨0, _, _, rfl, Nat.zero_le _, S0⟩
    case round =>
      clear S0
      obtain ⟨k, its, arr, rfl, hk, hI⟩ := hrel
      obtain ⟨n1, n2, n3, l1, l2, l3⟩ := HKO.out
      by_cases hlt : (k : Int) < m
      case neg =>
        have hkm : k = m := by omega
        subst hkm
        have CB := hidden hI.out.base
        have F1 := hidden (And.intro hI.out.il (And.intro hI.out.isMin (And.intro hI.out.it (And.intro hI.out.ar hI.out.out))))
        have y0 := (hI.out.base.below.block w.heap.size (by omega)).trans Y0.out
        have y0c := cell_of_row wr w.heap.size 1 _ _ _ y0
        simp only [List.getElem?_toArray, List.getElem?_cons_zero, List.getElem?_cons_succ] at y0c
        have S0 : Hid (L2 w2 b4 ig g k z N its arr ur 0 (.slice none 0 0) wr) := hidden ⟨hI.out.base, ⟨by simp [ends], .inl ⟨rfl, rfl⟩⟩, fun blk h => by cases h⟩
        clear hI y0
        go_wp2_with fail
        go_loopw [49] (fun v wx => ∃ (j : Nat) (c3 : Value), v = .int .i64 j ∧ j ≤ A.rl ∧ Hid (L2 w2 b4 ig g k z N its arr ur j c3 wx)) (fun v _ => A.rl - (intOf v).toNat)
        case atStart => exact ⟨0, _, rfl, Nat.zero_le _, S0⟩
        case round =>
          clear S0 y0c CB
          obtain ⟨j, c3, rfl, hj, hI⟩ := hrel
          by_cases hlt2 : (j : Int) < A.rl
          case neg =>
            have hjr : j = A.rl := by omega
            subst hjr
            obtain ⟨xs, hxs⟩ : ∃ xs, ends ur A.rl = xs := ⟨_, rfl⟩
            have hown := hI.out.own
            rw [hxs] at hown
            obtain ⟨a3, cap3, g3, rfl, hSR, hxl, hg3, hg3l⟩ := own_srow hown
            have G3L : Hid (g3 < wr.heap.size) := hidden (hg3l (by have := hI.out.base.below.size; omega))
            have hxm : Hid (∀ r ∈ ur, r.1 ∈ xs ∧ r.2.1 ∈ xs) := hidden fun r hr => by
              rw [← hxs]
              unfold ends
              rw [List.take_of_length_le (by have := hA.out.rl; omega)]
              simp only [List.mem_flatMap]
              exact ⟨⟨r, hr, by simp⟩, ⟨r, hr, by simp⟩⟩
            have FAR3 : Hid (∀ q ∈ (if 0 < xs.length then [g3] else []), q ≠ b4 ∧ q ≠ ig ∧ q ≠ g ∧ w2.heap.size ≤ q) := hidden fun q hq => by
              by_cases h0 : 0 < xs.length
              · rw [if_pos h0, List.mem_singleton] at hq
                subst hq
                have h1 := hI.out.far q (hg3 h0).1
                exact ⟨h1.1, h1.2.1, h1.2.2, (hg3 h0).2⟩
              · rw [if_neg h0] at hq; cases hq
            have SR := hidden hSR
            have CB := hidden hI.out.base
            have hxl' : xs.length ≤ 4000 := by omega
            have HXL := hidden hxl
            have q0 := cell_of_row wr b4 3 _ _ _ hI.out.base.fb
            simp only [List.getElem?_toArray, List.getElem?_cons_zero, List.getElem?_cons_succ] at q0
            clear hI hown hSR hxs hg3 hxl hg3l
            go_wp2_with fail
            refine (sort36_any a3 cap3 g3 _ xs wr HXL.out (by omega) SR.out).mono ?_
            rintro e w5 ⟨rfl, hSR5, ht5⟩
            have cb5 := CB.out.turned ht5 (fun h => (FAR3.out _ h).1 rfl) (fun h => (FAR3.out _ h).2.1 rfl) (fun h => (FAR3.out _ h).2.2.1 rfl) (fun q h => (FAR3.out _ h).2.2.2)
            have q5 := cell_of_row w5 b4 3 _ _ _ cb5.fb
            simp only [List.getElem?_toArray, List.getElem?_cons_zero, List.getElem?_cons_succ] at q5
            have SR5 := hidden hSR5
            have CB5 := hidden cb5
            have G3L5 : Hid (g3 < w5.heap.size) := hidden (Nat.lt_of_lt_of_le G3L.out ht5.size)
            clear hSR5 cb5 ht5 SR CB q0 G3L
            go_wp2_with fail
            refine (compact37_any a3 cap3 g3 _ _ w5 (by rw [List.length_mergeSort]; exact HXL.out) (by rw [List.length_mergeSort]; omega) SR5.out).mono ?_
            rintro e w6 ⟨rfl, hSR6, ht6⟩
            rw [List.length_mergeSort] at ht6
            obtain ⟨bs, hbs⟩ : ∃ bs, bnds xs = bs := ⟨_, rfl⟩
            have hbs' : Lib.compact (xs.mergeSort fun x y => decide (x ≤ y)) = bs := hbs
            rw [hbs'] at hSR6 ⊢
            have hbsl : bs.length ≤ 4000 := by rw [← hbs]; have := bnds_len xs; omega
            obtain ⟨hbm, hbp⟩ := bnds_spec xs
            rw [hbs] at hbm hbp
            have cb6 := CB5.out.turned ht6 (fun h => (FAR3.out _ h).1 rfl) (fun h => (FAR3.out _ h).2.1 rfl) (fun h => (FAR3.out _ h).2.2.1 rfl) (fun q h => (FAR3.out _ h).2.2.2)
            have hbg : 0 < bs.length → 0 < xs.length := fun h0 => by
              obtain ⟨y, hy⟩ := List.exists_mem_of_length_pos h0
              exact List.length_pos_of_mem ((hbm y).1 hy)
            have FAR6 : Hid (0 < bs.length → g3 ≠ b4 ∧ g3 ≠ ig ∧ g3 ≠ g ∧ w2.heap.size ≤ g3) := hidden fun h0 => FAR3.out g3 (by rw [if_pos (hbg h0)]; simp)
            have q6 := cell_of_row w6 b4 3 _ _ _ cb6.fb
            have f6 := frozen_of_row w6 b4 3 _ _ cb6.fb
            simp only [List.getElem?_toArray, List.getElem?_cons_zero, List.getElem?_cons_succ] at q6
            have BM := hidden (show ∀ r ∈ ur, r.1 ∈ bs ∧ r.2.1 ∈ bs from fun r hr => ⟨(hbm _).2 (hxm.out r hr).1, (hbm _).2 (hxm.out r hr).2⟩)
            have BP := hidden hbp
            obtain ⟨nb, hnb⟩ : ∃ nb, bs.length = nb := ⟨_, rfl⟩
            have NB := hidden hnb
            rw [hnb] at hbsl ⊢
            have cb7 : CBase w2 b4 ig g k z N its arr (.slice a3 nb cap3) (.int .i64 0) (.slice none 0 0) (w6.setCell ⟨b4, 3, none⟩ (.slice a3 nb cap3)) := by
              have t7 : Turned [b4] w6 (w6.setCell ⟨b4, 3, none⟩ (.slice a3 nb cap3)) := Turned.of_grown (grown_set w6 b4 3 _) _ (fun k hk => by cases hk; simp)
              refine ⟨?_, t7.keep cb6.fi (by simp; omega), t7.keep cb6.fg (by simp; omega), cb6.below.trans (t7.below cb6.below.size (by simpa using l1))⟩
              rw [heap_setCell_same w6 b4 3 _ 76 _ cb6.fb]
              simp
            have c7 := cell_of_row _ b4 3 _ _ _ cb7.fb
            simp only [List.getElem?_toArray, List.getElem?_cons_zero, List.getElem?_cons_succ] at c7
            have IR : Hid (∀ W, Turned [b4] w6 W → Cells1 W g3 bs) := hidden fun W hW j hj => by
              have h0 : 0 < bs.length := by omega
              have h1 := ((hSR6.holds h0) j (by simpa using hj)).1
              rw [Nat.zero_add, getElem!_pos bs.toArray j (by simpa using hj)] at h1
              have h2 := hSR6.lt h0
              rw [World.cell?_of_block (a := ⟨g3, j, none⟩) (hW.block g3 h2 (by simp; exact (FAR6.out h0).1)), h1]
              congr 2
              unfold iAt
              rw [List.getD_eq_getElem?_getD, List.getElem?_eq_getElem hj]
              simp
            have ADR := hidden hSR6.addr
            have G3L6 : Hid (g3 < w6.heap.size) := hidden (Nat.lt_of_lt_of_le G3L5.out ht6.size)
            have CB7 := hidden cb7
            clear cb6 cb7 hSR6 ht6 SR5 CB5 q5 hbs hbs' hbm hbp hnb hbg G3L5
            go_wp2_with fail
            obtain ⟨W7, hW7⟩ : ∃ W7, w6.setCell ⟨b4, 3, none⟩ (.slice a3 nb cap3) = W7 := ⟨_, rfl⟩
            have t7 : Turned [b4] w6 W7 := by rw [← hW7]; exact Turned.of_grown (grown_set w6 b4 3 _) _ (fun k hk => by cases hk; simp)
            rw [hW7] at CB7 c7 ⊢
            clear hW7
            have hmx : max 0 ((nb : Int) - 1) = ((nb - 1 : Nat) : Int) := by omega
            rw [hmx]
            refine (newStabTree_any (nb - 1) W7 (by omega)).mono ?_
            rintro e w8 ⟨⟨z2, g2, rfl, hz2, ho2⟩, hb8⟩
            obtain ⟨H2, hz2H, hz2n, hz2b⟩ := hz2
            obtain ⟨N2, hN2⟩ : ∃ N2, 2 * z2 = N2 := ⟨_, rfl⟩
            rw [hN2] at ho2 ⊢
            have hz2l : (z2 : Int) ≤ 10000 := by
              rcases hz2b with h | h
              · rw [hz2H, h]; decide
              · omega
            have t8 : Turned [] W7 w8 := Turned.of_below hb8 (Nat.le_refl _)
            have cb8 := CB7.out.turned t8 (by simp) (by simp) (by simp) (by simp)
            have lg2 := (ho2.lt g2 rfl).1
            have lb4 : b4 < W7.heap.size := (Array.getElem?_eq_some_iff.1 CB7.out.fb).1
            have lig : ig < W7.heap.size := (Array.getElem?_eq_some_iff.1 CB7.out.fi).1
            have lgg : g < W7.heap.size := (Array.getElem?_eq_some_iff.1 CB7.out.fg).1
            have lg3 : g3 < W7.heap.size := Nat.lt_of_lt_of_le G3L6.out t7.size
            have fg2 := own_row_heap ho2
            have v4 := cell_of_row w8 b4 4 _ _ _ cb8.fb
            have v5 := cell_of_row w8 b4 5 _ _ _ cb8.fb
            have vf := fun j => frozen_of_row w8 b4 j _ _ cb8.fb
            simp only [List.getElem?_toArray, List.getElem?_cons_zero, List.getElem?_cons_succ] at v4 v5
            obtain ⟨w9, hw9⟩ : ∃ w9, (w8.setCell ⟨b4, 4, none⟩ (.int .i64 z2)).setCell ⟨b4, 5, none⟩ (.slice (some ⟨g2, 0, none⟩) N2 N2) = w9 := ⟨_, rfl⟩
            have t9 : Turned [b4] w8 w9 := by
              rw [← hw9]
              exact Turned.trans (Turned.of_grown (grown_set w8 b4 4 _) _ (fun k hk => by cases hk; simp)) (Turned.of_grown (grown_set _ b4 5 _) [b4] (fun k hk => by cases hk; simp)) (by simp)
            have cb9 : CBase w2 b4 ig g k z N its arr (.slice a3 nb cap3) (.int .i64 z2) (.slice (some ⟨g2, 0, none⟩) N2 N2) w9 := by
              refine ⟨?_, t9.keep cb8.fi (by simp; omega), t9.keep cb8.fg (by simp; omega), cb8.below.trans (t9.below cb8.below.size (by simpa using l1))⟩
              rw [← hw9]
              have h1 := heap_setCell_same w8 b4 4 _ 76 (.int .i64 z2) cb8.fb
              rw [heap_setCell_same _ b4 5 _ 76 _ h1]
              simp
            have hst := IsStab.fresh H2
            rw [← hz2H, hN2] at hst
            have S3' : Hid (L3 w2 b4 ig g k z N its arr a3 nb cap3 g3 z2 g2 N2 H2 bs ur 0 (List.replicate N2 9223372036854775807) w9) := hidden ⟨cb9, (fun j hj => by
              have h1 := IR.out w9 ((t7.trans t8 (by simp)).trans t9 (by simp)) j hj
              exact h1), t9.keep fg2 (by simp; omega), hst⟩
            have y9 := (cb9.below.block w.heap.size (by omega)).trans Y0.out
            have y9c := cell_of_row w9 w.heap.size 1 _ _ _ y9
            simp only [List.getElem?_toArray, List.getElem?_cons_zero, List.getElem?_cons_succ] at y9c
            have G2 := hidden (show g2 ≠ b4 ∧ g2 ≠ ig ∧ g2 ≠ g ∧ g2 ≠ g3 ∧ w2.heap.size ≤ g2 ∧ g3 < w9.heap.size from ⟨by omega, by omega, by omega, by omega, by have := CB7.out.below.size; omega, by have := t8.size; have := t9.size; omega⟩)
            have HZ2 := hidden hz2H
            have HN2 := hidden hN2.symm
            have hz2n' : (nb : Int) ≤ z2 + 1 := by omega
            clear CB7 c7 IR ho2 hb8 hz2b t7 t8 t9 cb8 cb9 lg2 fg2 hst y9 lb4 lig lgg lg3 hmx G3L6
            have HW9 := hidden hw9
            clear hw9 hN2 hz2H hz2n
            go_upto_region 17 with fail
            rw [HW9.out]
            clear HW9 v4 v5 vf
            go_wp2_with fail
            go_loopw [80] (fun v wx => ∃ (j : Nat) (arr2 : List Int), v = .int .i64 j ∧ j ≤ A.rl ∧ Hid (L3 w2 b4 ig g k z N its arr a3 nb cap3 g3 z2 g2 N2 H2 bs ur j arr2 wx) ∧ Hid (g3 < wx.heap.size)) (fun v _ => A.rl - (intOf v).toNat)
            case atStart => exact ⟨0, _, rfl, Nat.zero_le _, S3', hidden G2.out.2.2.2.2.2⟩
            case round =>
              clear S3' y9c
              obtain ⟨j, arr2, rfl, hj2, hI, hG3⟩ := hrel
              obtain ⟨m1, m2, m3, m4, m5, _⟩ := G2.out
              by_cases hlt3 : (j : Int) < A.rl
              case neg =>
                have hjr : j = A.rl := by omega
                subst hjr
                have yr := (hI.out.base.below.block (w.heap.size + 1) (by omega)).trans Y1.out
                have r0 := cell_of_row wr (w.heap.size + 1) 0 _ _ _ yr
                have r1 := cell_of_row wr (w.heap.size + 1) 1 _ _ _ yr
                have r2 := cell_of_row wr (w.heap.size + 1) 2 _ _ _ yr
                have r3 := cell_of_row wr (w.heap.size + 1) 3 _ _ _ yr
                have r4 := cell_of_row wr (w.heap.size + 1) 4 _ _ _ yr
                have r5 := cell_of_row wr (w.heap.size + 1) 5 _ _ _ yr
                have rf := fun i => frozen_of_row wr (w.heap.size + 1) i _ _ yr
                have p0 := cell_of_row wr b4 0 _ _ _ hI.out.base.fb
                have p1 := cell_of_row wr b4 1 _ _ _ hI.out.base.fb
                have p2 := cell_of_row wr b4 2 _ _ _ hI.out.base.fb
                have p3 := cell_of_row wr b4 3 _ _ _ hI.out.base.fb
                have p4 := cell_of_row wr b4 4 _ _ _ hI.out.base.fb
                have p5 := cell_of_row wr b4 5 _ _ _ hI.out.base.fb
                simp only [List.getElem?_toArray, List.getElem?_cons_zero, List.getElem?_cons_succ] at r0 r1 r2 r3 r4 r5 p0 p1 p2 p3 p4 p5
                obtain ⟨fr, tr⟩ := set6 wr (w.heap.size + 1) 76 _ _ _ _ _ _ (.slice (some ⟨ig, 0, none⟩) k k) (.int .i64 z) (.slice (some ⟨g, 0, none⟩) N N) (.slice a3 nb cap3) (.int .i64 z2) (.slice (some ⟨g2, 0, none⟩) N2 N2) yr
                have FR := hidden fr
                have TR := hidden tr
                clear yr fr tr
                go_wp2_with fail
                refine bodyPost_ret_by (results_cell_row rfl _ _ (w.heap.size + 1) 76 _ (0, 0) _ rfl FR.out Try.underlying76 rfl Try.size76) rfl ?_
                obtain ⟨wF, hwF⟩ : ∃ wF, ((((((wr.setCell ⟨w.heap.size + 1, 0, none⟩ (.slice (some ⟨ig, 0, none⟩) k k)).setCell ⟨w.heap.size + 1, 1, none⟩ (.int .i64 z)).setCell ⟨w.heap.size + 1, 2, none⟩ (.slice (some ⟨g, 0, none⟩) N N)).setCell ⟨w.heap.size + 1, 3, none⟩ (.slice a3 nb cap3)).setCell ⟨w.heap.size + 1, 4, none⟩ (.int .i64 z2)).setCell ⟨w.heap.size + 1, 5, none⟩ (.slice (some ⟨g2, 0, none⟩) N2 N2)) = wF := ⟨_, rfl⟩
                have tr := TR.out
                rw [hwF] at tr ⊢
                obtain ⟨f1, f2, f3, f4, f5⟩ := F1.out
                have kI := tr.keep hI.out.base.fi (by simp; omega)
                have kG := tr.keep hI.out.base.fg (by simp; omega)
                have k2 := tr.keep hI.out.f2 (by simp; omega)
                have hbF : Below w.heap.size w wF := (hbw2.out.trans (hI.out.base.below.mono (by omega))).trans (tr.below (by have := hI.out.base.below.size; omega) (by simp))
                have hzm := HMZ.out
                have hst := hI.out.stab
                rw [List.take_of_length_le (by have := hA.out.rl; omega)] at hst
                refine ⟨⟨⟨some ⟨ig, 0, none⟩, k, ig, k, z, N, H, g, a3, cap3, g3, nb, z2, N2, H2, g2⟩, its, arr, bs, arr2, rfl, ?_⟩, hbF⟩
                exact
                { hm := f1.symm
                  row1 := ⟨fun _ => rfl, (Array.getElem?_eq_some_iff.1 kI).1, by omega, fun i hi => by rw [cell_of_row wF ig i _ _ _ kI, dist_get _ i hi, iAt_dAt2 _ _ hi]⟩
                  sort1 := by
                    rw [List.pairwise_iff_getElem]
                    intro i i' hi hi' hii
                    have e1 := f3 i _ (by omega) (List.getElem?_eq_getElem (show i < zs.length by omega))
                    have e2 := f3 i' _ (by omega) (List.getElem?_eq_getElem (show i' < zs.length by omega))
                    have e3 := (List.pairwise_iff_getElem.1 HS.out) i i' (by omega) (by omega) hii
                    rw [iAt_getElem _ _ hi] at e1
                    rw [iAt_getElem _ _ hi'] at e2
                    omega
                  z1 := HZ.out
                  n1 := HN.out
                  z1l := by show (z : Int) ≤ 2000000; omega
                  m1 := by show k ≤ z; omega
                  min1 := f2
                  reads1 := ⟨by rw [f2.len, ← HZ.out, ← HN.out], (Array.getElem?_eq_some_iff.1 kG).1, fun i hi => by
                    have hi2 : i < arr.length := by rw [f2.len, ← HZ.out, ← HN.out]; exact hi
                    rw [cell_of_row wF g i _ _ _ kG, dist_get _ i hi2, iAt_dAt2 _ _ hi2]⟩
                  g1 := (Array.getElem?_eq_some_iff.1 kG).1
                  says1 := fun b hb lo hi => by
                    constructor
                    · rintro ⟨i, h1, h2, h3, h4⟩
                      have hix : zs[i]? = some zs[i] := List.getElem?_eq_getElem (show i < zs.length by omega)
                      have e1 := f3 i _ (by omega) hix
                      have e2 := f4 i _ (by omega) hix
                      refine ⟨zs[i], HP.out.mem_iff.1 (List.getElem_mem _), by omega, by omega, ?_⟩
                      rw [← e2]
                      exact h4
                    · rintro ⟨t, ht, h1, h2, h3⟩
                      obtain ⟨i, hi, e⟩ := List.mem_iff_getElem.1 (HP.out.mem_iff.2 ht)
                      have hix : zs[i]? = some t := by rw [List.getElem?_eq_getElem hi, e]
                      have e1 := f3 i _ (by omega) hix
                      have e2 := f4 i _ (by omega) hix
                      refine ⟨i, by omega, by omega, by omega, ?_⟩
                      show iAt arr (z + i) < b
                      rw [e2]
                      exact h3
                  hnb := NB.out.symm
                  row2 := ⟨ADR.out, Nat.lt_of_lt_of_le hG3.out tr.size, by have := NB.out; omega, fun i hi => (World.cell?_of_block (a := ⟨g3, i, none⟩) (tr.block g3 hG3.out (by simp; have := FAR6.out (by omega); omega))).trans (hI.out.cells i hi)⟩
                  sort2 := pw_weak (fun _ _ h => by omega) BP.out
                  dup2 := pw_weak (fun _ _ h => by omega) BP.out
                  z2 := HZ2.out
                  n2 := HN2.out
                  z2l := by show (z2 : Int) ≤ 2000000; omega
                  m2 := by have := NB.out; show bs.length ≤ z2 + 1; omega
                  stab2 := hst
                  mem2 := BM.out
                  reads2 := ⟨by rw [hst.len, ← HZ2.out, ← HN2.out], (Array.getElem?_eq_some_iff.1 k2).1, fun i hi => by
                    have hi2 : i < arr2.length := by rw [hst.len, ← HZ2.out, ← HN2.out]; exact hi
                    rw [cell_of_row wF g2 i _ _ _ k2, dist_get _ i hi2, iAt_dAt2 _ _ hi2]⟩
                  g2 := (Array.getElem?_eq_some_iff.1 k2).1 }
              have hbw := hbw2.out.trans (hI.out.base.below.mono (by omega))
              obtain ⟨x, hx⟩ : ∃ x, ur[j]? = some x := ⟨_, List.getElem?_eq_getElem (by have := hA.out.rl; omega)⟩
              have hra := hA.out.rd.addr (by have := hA.out.rl; omega)
              obtain ⟨c1, c2, c4⟩ := (hA1.out wr hbw).rd.cells j x hx
              have hxm2 := BM.out x (List.mem_of_getElem? hx)
              have b0 : (0 : Int) ≤ j := by omega
              rw [hra]
              go_upto_region 20 with fail
              obtain ⟨W1, hW1⟩ : ∃ W1, wr.alloc (.cells #[.int .i64 x.1, .int .i64 x.2.1, .int .i64 x.2.2] 56) = W1 := ⟨_, rfl⟩
              rw [hW1]
              have t1 : Turned [] wr W1 := by rw [← hW1]; exact Turned.of_grown (World.grownBy_alloc wr _ none) [] (fun k hk => by cases hk)
              have z1 : W1.heap[wr.heap.size]? = some (.cells #[.int .i64 x.1, .int .i64 x.2.1, .int .i64 x.2.2] 56 (0, 0)) := by rw [← hW1]; exact heap_alloc_new wr _
              have cb1 := hI.out.base.turned t1 (by simp) (by simp) (by simp) (by simp)
              have e0 := cell_of_row W1 wr.heap.size 0 _ _ _ z1
              have e1 := cell_of_row W1 wr.heap.size 1 _ _ _ z1
              have e2 := cell_of_row W1 wr.heap.size 2 _ _ _ z1
              have e3 := cell_of_row W1 b4 3 _ _ _ cb1.fb
              have e4 := cell_of_row W1 b4 4 _ _ _ cb1.fb
              have e5 := cell_of_row W1 b4 5 _ _ _ cb1.fb
              simp only [List.getElem?_toArray, List.getElem?_cons_zero, List.getElem?_cons_succ] at e0 e1 e2 e3 e4 e5
              have IRW : Hid (∀ q, IRow W1.heap.size (W1.drewN q) a3 cap3 g3 bs) := hidden fun q => ⟨ADR.out, Nat.lt_of_lt_of_le hG3.out t1.size, by have := NB.out; omega, fun i hi => (World.cell?_of_block (a := ⟨g3, i, none⟩) (t1.block g3 hG3.out (by simp))).trans (hI.out.cells i hi)⟩
              have BLE : Hid (bs.Pairwise (· ≤ ·)) := hidden (pw_weak (fun _ _ h => by omega) BP.out)
              have f2 := t1.keep hI.out.f2 (by simp)
              have OP := hidden (own_of_heap (B := w2.heap.size) f2 (by rw [hI.out.stab.len, ← HZ2.out, ← HN2.out]) m5 (by have := HN2.out; unfold maxLen; omega))
              have OPq : ∀ q, Hid ((W1.drewN q).ownsRow w2.heap.size 3 1 (.slice (some ⟨g2, 0, none⟩) N2 N2) N2 (arr2.map (Value.int .i64))) := fun q => OP.out
              have hlo := cntL_le bs x.1
              have hhi : cntL bs x.2.1 < bs.length := by have h1 := (mem_place hxm2.2 x.2.1).2 (Int.le_refl _); have := cntE_le bs x.2.1; omega
              have hlo' : (cntL bs x.1 : Int) ≤ 4000 := by have := NB.out; omega
              have hhi' : (cntL bs x.2.1 : Int) ≤ z2 := by have := NB.out; omega
              have CB1 := hidden cb1
              have HX := hidden hx
              have T1 := hidden t1
              have NEXT : Hid (∀ q w', w'.ownsRow w2.heap.size 3 1 (.slice (some ⟨g2, 0, none⟩) N2 N2) N2 ((lower arr2 x.2.2 (cover H2 (cntL bs x.1) (cntL bs x.2.1))).map (Value.int .i64)) → (W1.drewN q).grownBy w' (some g2) → ∃ arr', L3 w2 b4 ig g k z N its arr a3 nb cap3 g3 z2 g2 N2 H2 bs ur (j + 1) arr' w' ∧ g3 < w'.heap.size) := hidden fun q w' ho hg => by
                have t2 : Turned [g2] W1 w' := Turned.of_grown (w := W1) ⟨hg.os, hg.tape, hg.output, hg.size, hg.block⟩ _ (fun k hk => by cases hk; simp)
                refine ⟨_, ⟨CB1.out.turned t2 (by simp; omega) (by simp; omega) (by simp; omega) (by simpa using m5), fun i hi => ?_, own_row_heap ho, ?_⟩, Nat.lt_of_lt_of_le hG3.out (Nat.le_trans T1.out.size t2.size)⟩
                · have h1 := (IRW.out 0).cells i hi
                  exact (World.cell?_of_block (a := ⟨g3, i, none⟩) (t2.block g3 (Nat.lt_of_lt_of_le hG3.out T1.out.size) (by simp; omega))).trans h1
                · rw [List.take_add_one, HX.out, List.map_append, List.reverse_append]
                  exact hI.out.stab.lay _ _ _ (by rw [← HZ2.out]; omega)
              clear hW1 z1 cb1 c1 c2 c4 f2 t1 hx hxm2 hlo hhi
              go_wp2_with fail
              refine (search_any W1.heap.size a3 cap3 g3 nb bs x.1 W1 NB.out.symm (IRW.out 0) BLE.out).mono ?_
              rintro e w3 ⟨rfl, q1, rfl⟩
              go_wp2_with fail
              refine (search_any W1.heap.size a3 cap3 g3 nb bs x.2.1 _ NB.out.symm (IRW.out q1) BLE.out).mono ?_
              rintro e w3 ⟨rfl, q2, rfl⟩
              go_wp2_with fail
              refine (lay_any w2.heap.size g2 z2 N2 H2 (cntL bs x.1) (cntL bs x.2.1) x.2.2 arr2 _ HZ2 HN2 (by omega) (by omega) hhi' (hidden (by rw [hI.out.stab.len, ← HZ2.out, ← HN2.out])) (OPq (q1 + q2))).mono ?_
              rintro e w' ⟨rfl, ho, hg⟩
              obtain ⟨arr', h3, h4⟩ := NEXT.out _ w' ho hg
              have H3 := hidden h3
              have H4 := hidden h4
              clear h3 h4 ho hg NEXT
              go_wp2_with fail
              exact ⟨⟨j + 1, arr', by go_num, by omega, H3, H4⟩, by simp [intOf]; omega⟩
          have hbw := hbw2.out.trans (hI.out.base.below.mono (by omega))
          obtain ⟨x, hx⟩ : ∃ x, ur[j]? = some x := ⟨_, List.getElem?_eq_getElem (by have := hA.out.rl; omega)⟩
          have hra := hA.out.rd.addr (by have := hA.out.rl; omega)
          obtain ⟨c1, c2, c4⟩ := (hA1.out wr hbw).rd.cells j x hx
          have b0 : (0 : Int) ≤ j := by omega
          rw [hra]
          go_upto_region 12 with fail
          obtain ⟨W1, hW1⟩ : ∃ W1, wr.alloc (.cells #[.int .i64 x.1, .int .i64 x.2.1, .int .i64 x.2.2] 56) = W1 := ⟨_, rfl⟩
          rw [hW1]
          have t1 : Turned [] wr W1 := by rw [← hW1]; exact Turned.of_grown (World.grownBy_alloc wr _ none) [] (fun k hk => by cases hk)
          have z1 : W1.heap[wr.heap.size]? = some (.cells #[.int .i64 x.1, .int .i64 x.2.1, .int .i64 x.2.2] 56 (0, 0)) := by rw [← hW1]; exact heap_alloc_new wr _
          have cb1 := hI.out.base.turned t1 (by simp) (by simp) (by simp) (by simp)
          have ow1 := own_turned hI.out.own t1 (by simp)
          have d3 := cell_of_row W1 b4 3 _ _ _ cb1.fb
          have d4 := cell_of_row W1 wr.heap.size 0 _ _ _ z1
          have d5 := cell_of_row W1 wr.heap.size 1 _ _ _ z1
          simp only [List.getElem?_toArray, List.getElem?_cons_zero, List.getElem?_cons_succ] at d3 d4 d5
          have OW := hidden ow1
          have CB1 := hidden cb1
          have hjl : 2 * j ≤ 4000 := by omega
          have N1 := two_new W1 (.int .i64 x.1) (.int .i64 x.2.1) 3
          have LTB : b4 < W1.heap.size := (Array.getElem?_eq_some_iff.1 cb1.fb).1
          have hsz1 := cb1.below.size
          clear hW1 z1 cb1 ow1 c1 c2 c4 t1
          go_wp2_with (
            at_builtin
            refine wpList_append_own_at _ rfl _ _ 22 rfl w2.heap.size 3 i3 (.int .i64 0) 1 8 Try.underlying22 hi3 z30 z31 z32 rfl (by decide) _ _ _ rfl (OW.out.alloc _) ⟨W1.heap.size, 0, none⟩ 2 2 [.int .i64 x.1, .int .i64 x.2.1] rfl rfl N1 (by simp [Value.oneCell']) (by unfold maxLen; omega) (by omega) (by simp; omega) ?_
            intro v' w3 hown' hgrow hnil hloc
            have hgr := (World.grownBy_alloc W1 (.cells #[.int .i64 x.1, .int .i64 x.2.1] 3) c3.ownBlock).trans hgrow
            have fb3 : w3.heap[b4]? = some (.cells #[.slice (some ⟨ig, 0, none⟩) k k, .int .i64 z, .slice (some ⟨g, 0, none⟩) N N, c3, .int .i64 0, .slice none 0 0] 76 (0, 0)) := (hgr.block b4 LTB (fun e => (hI.out.far b4 e.symm).1 rfl)).trans CB1.out.fb
            have c5 := cell_of_row w3 b4 3 _ _ _ fb3
            have f5 := frozen_of_row w3 b4 3 _ _ fb3
            simp only [List.getElem?_toArray, List.getElem?_cons_zero, List.getElem?_cons_succ] at c5
            have hloc2 : v'.ownBlock = c3.ownBlock ∨ v'.ownBlock = some (W1.heap.size + 1) := by
              have h := hloc
              rw [World.size_alloc] at h
              exact h
            obtain ⟨g', cap', rfl⟩ := own_form hown'
            have H3 := hidden (And.intro hown' (And.intro hgr (And.intro hloc2 fb3)))
            clear hown' hgrow hnil hloc hgr fb3 hloc2)
          obtain ⟨hown', hgr, hloc, fb3⟩ := H3.out
          have gs := grown_set w3 b4 3 (Value.slice (some ⟨g', 0, none⟩) (2 * j + 1 + 1) cap')
          have lig : ig < W1.heap.size := (Array.getElem?_eq_some_iff.1 CB1.out.fi).1
          have lg : g < W1.heap.size := (Array.getElem?_eq_some_iff.1 CB1.out.fg).1
          have hfar : ∀ blk, (Value.slice (some ⟨g', 0, none⟩) (2 * j + 1 + 1) cap').ownBlock = some blk → blk ≠ b4 ∧ blk ≠ ig ∧ blk ≠ g := fun blk hb => by
            rcases hloc with e | e
            · exact hI.out.far blk (by rw [← e]; exact hb)
            · rw [e] at hb
              have e3 : W1.heap.size + 1 = blk := by simpa using hb
              omega
          refine ⟨⟨j + 1, _, by go_num, by omega, hidden ⟨⟨?_, ?_, ?_, ?_⟩, ?_, hfar⟩⟩, by simp [intOf]; omega⟩
          · rw [heap_setCell_same w3 b4 3 _ 76 _ fb3]
            simp
          · rw [heap_setCell_other w3 _ ig _ (Ne.symm n1), hgr.block ig lig (fun e => (hI.out.far ig e.symm).2.1 rfl)]
            exact CB1.out.fi
          · rw [heap_setCell_other w3 _ g _ (Ne.symm n2), hgr.block g lg (fun e => (hI.out.far g e.symm).2.2 rfl)]
            exact CB1.out.fg
          · exact (CB1.out.below.grown hgr CB1.out.below.size (fun q hq => (hI.out.own.lt q hq).1)).grown gs (Nat.le_trans CB1.out.below.size hgr.size) (fun q hq => by cases hq; exact l1)
          · have he : ends ur (j + 1) = ends ur j ++ [x.1, x.2.1] := by
              unfold ends
              rw [List.take_add_one, hx, List.flatMap_append]
              simp
            rw [he, List.map_append, show 2 * (j + 1) = 2 * j + 1 + 1 by omega]
            exact hown'.kept gs (.inr fun e => (hfar b4 e).1 rfl)
      obtain ⟨x, hx⟩ : ∃ x, zs[k]? = some x := ⟨_, List.getElem?_eq_getElem (by have := HMZ.out; omega)⟩
      obtain rfl := S3.out.addr (by have := HMZ.out; omega)
      obtain ⟨c1, c2, c3⟩ := (S3.out.below hI.out.base.below).cells k x hx
      have b0 : (0 : Int) ≤ k := by omega
      go_upto_region 6 with fail
      obtain ⟨W1, hW1⟩ : ∃ W1, wr.alloc (.cells #[.int .i64 x.1, .int .i64 x.2.1, .int .i64 x.2.2] 64) = W1 := ⟨_, rfl⟩
      rw [hW1]
      have t1 : Turned [] wr W1 := by rw [← hW1]; exact Turned.of_grown (World.grownBy_alloc wr _ none) [] (fun k hk => by cases hk)
      have z1 : W1.heap[wr.heap.size]? = some (.cells #[.int .i64 x.1, .int .i64 x.2.1, .int .i64 x.2.2] 64 (0, 0)) := by rw [← hW1]; exact heap_alloc_new wr _
      have cb1 := hI.out.base.turned t1 (by simp) (by simp) (by simp) (by simp)
      have lig : ig < wr.heap.size := (Array.getElem?_eq_some_iff.1 hI.out.base.fi).1
      have lb4 : b4 < wr.heap.size := (Array.getElem?_eq_some_iff.1 hI.out.base.fb).1
      have d0 := cell_of_row W1 b4 0 _ _ _ cb1.fb
      have d1 := cell_of_row W1 b4 1 _ _ _ cb1.fb
      have d2 := cell_of_row W1 b4 2 _ _ _ cb1.fb
      have d3 := cell_of_row W1 wr.heap.size 0 _ _ _ z1
      have d4 := cell_of_row W1 wr.heap.size 1 _ _ _ z1
      have d5 := cell_of_row W1 ig k _ _ _ cb1.fi
      have d6 := frozen_of_row W1 ig k _ _ cb1.fi
      rw [dist_get _ k (by have := hI.out.il; omega)] at d5
      simp only [List.getElem?_toArray, List.getElem?_cons_zero, List.getElem?_cons_succ] at d0 d1 d2 d3 d4
      have e1 := (World.cell?_setCell_other W1 ⟨ig, k, none⟩ ⟨b4, 1, none⟩ (.int .i64 x.1) (ne_blk0 (Ne.symm n1))).trans d1
      have e2 := (World.cell?_setCell_other W1 ⟨ig, k, none⟩ ⟨b4, 2, none⟩ (.int .i64 x.1) (ne_blk0 (Ne.symm n1))).trans d2
      have e4 := (World.cell?_setCell_other W1 ⟨ig, k, none⟩ ⟨wr.heap.size, 1, none⟩ (.int .i64 x.1) (ne_blk0 (by omega))).trans d4
      have t2 : Turned [ig] W1 (W1.setCell ⟨ig, k, none⟩ (.int .i64 x.1)) := Turned.of_grown (grown_set W1 ig k _) _ (fun k hk => by cases hk; simp)
      have fi2 : (W1.setCell ⟨ig, k, none⟩ (.int .i64 x.1)).heap[ig]? = some (.cells ((its.set k x.1).map (Value.int .i64)).toArray 3 (0, 0)) := by
        rw [heap_setCell_same W1 ig k _ 3 _ cb1.fi]
        simp [List.map_set]
      have fg2 := t2.keep cb1.fg (by simp; omega)
      have OP := hidden (own_of_heap (B := w2.heap.size) fg2 (by rw [hI.out.isMin.len, ← HZ.out, ← HN.out]) l3 (by have := HN.out; unfold maxLen; omega))
      have NEXT : Hid (∀ w', SetDone w2.heap.size g z N H k x.2.1 arr w' → (W1.setCell ⟨ig, k, none⟩ (.int .i64 x.1)).grownBy w' (some g) → ∃ its' arr', L1 w2 b4 ig g m z N H zs (k + 1) its' arr' w') := hidden fun w' hsd hg2 => by
        obtain ⟨arr', h1, h2, h3⟩ := hsd
        have t3 : Turned [g] (W1.setCell ⟨ig, k, none⟩ (.int .i64 x.1)) w' := Turned.of_grown hg2 _ (fun k hk => by cases hk; simp)
        have hsz : w2.heap.size ≤ W1.heap.size := Nat.le_trans hI.out.base.below.size t1.size
        have hil := hI.out.il
        refine ⟨its.set k x.1, arr', ⟨t3.keep (t2.keep cb1.fb (by simp; omega)) (by simp; omega), t3.keep fi2 (by simp; omega), own_row_heap h3, (cb1.below.trans (t2.below hsz (by simpa using l2))).trans (t3.below (Nat.le_trans hsz t2.size) (by simpa using l3))⟩, by rw [List.length_set]; exact hil, h1, fun j y hj hy => ?_, fun j y hj hy => ?_, fun j hj hjz => ?_⟩
        · rw [iAt_set _ _ _ _ (by omega)]
          by_cases e : j = k
          · subst e; rw [hx] at hy; cases hy; rw [if_pos rfl]
          · rw [if_neg e]; exact hI.out.it j y (by omega) hy
        · rw [h2 j (by have := (List.getElem?_eq_some_iff.1 hy).1; have := HMZ.out; omega)]
          by_cases e : j = k
          · subst e; rw [hx] at hy; cases hy; rw [if_pos rfl]
          · rw [if_neg e]; exact hI.out.ar j y (by omega) hy
        · rw [h2 j hjz, if_neg (by omega)]
          exact hI.out.out j (by omega) hjz
      have HMIN := hidden hI.out.isMin
      clear hW1 z1 cb1 c1 c2 c3 fi2 fg2 t1 t2
      go_wp2_with fail
      refine (set_any w2.heap.size g z N H k x.2.1 arr _ HZ HN (by omega) (by omega) HMIN OP).mono ?_
      rintro e w' ⟨rfl, hsd, hg2⟩
      obtain ⟨its', arr', h3⟩ := NEXT.out w' hsd hg2
      have H3 := hidden h3
      clear h3 hsd hg2 NEXT
      go_wp2_with fail
      exact ⟨⟨k + 1, its', arr', by go_num, by omega, H3⟩, by simp [intOf]; omega⟩

end Go.Proofs.Qxb6612201a
