/-
  WALK: minTree.below and the function within it that calls itself.
-/
import Derived.Test.Qxb6612201aLowW
import Derived.Maps.AppendAt
import Derived.Laws.NewDeep
import Derived.Laws.EntriesVeiled
namespace Go.Proofs.Qxb6612201a
open Go.RowKit
set_option linter.unusedVariables false
set_option linter.unusedSimpArgs false

theorem own_form {w : World} {B e sz n : Nat} {v : Value} {xs : List Value} (h : w.ownsRow B e sz v (n + 1) xs) : ∃ g cap, v = .slice (some ⟨g, 0, none⟩) (n + 1) cap := by
  rcases h.2 with ⟨_, h0⟩ | ⟨g, cap, cur, hv, _⟩
  · omega
  · exact ⟨g, cap, hv⟩

theorem heap_three (w : World) (o p q : Obj) : (((w.alloc o).alloc p).alloc q).heap[w.heap.size + 1 + 1]? = some q := by
  have h := heap_two (w.alloc o) p q
  rwa [show (w.alloc o).heap.size = w.heap.size + 1 by simp] at h
theorem heap_four (w : World) (o p q r : Obj) : ((((w.alloc o).alloc p).alloc q).alloc r).heap[w.heap.size + 1 + 1 + 1]? = some r := by
  have h := heap_three (w.alloc o) p q r
  rwa [show (w.alloc o).heap.size = w.heap.size + 1 by simp] at h

/-- The function value of 'descend'. -/
def descF (bt bb bu bd : Nat) : Value := .func (.func 29) #[] #[.pointer (some ⟨bt, 0, none⟩), .pointer (some ⟨bb, 0, none⟩), .pointer (some ⟨bu, 0, none⟩), .pointer (some ⟨bd, 0, none⟩)]

/-- The memory while 'below' runs: W is the world at its call, r0 the block of the slice that came in, v the slice now, xs what it holds. -/
structure BelInv (W : World) (B bt bb bu bd g z N : Nat) (arr : List Int) (bound : Int) (r0 : Option Nat) (v : Value) (xs : List Int) (w : World) : Prop where
  tree : w.heap[bt]? = some (.cells #[.int .i64 z, .slice (some ⟨g, 0, none⟩) N N] 67 (0, 0))
  bnd : w.heap[bb]? = some (.cells #[.int .i64 bound] 3 (0, 0))
  fn : w.heap[bd]? = some (.cells #[descF bt bb bu bd] 59 (0, 0))
  buf : w.heap[bu]? = some (.cells #[v] 22 (0, 0))
  own : w.ownsRow B 3 1 v xs.length (xs.map (Value.int .i64))
  loc : ∀ k, v.ownBlock = some k → k ≠ bt ∧ k ≠ bb ∧ k ≠ bd ∧ k ≠ bu ∧ k ≠ g
  row : Reads w g N arr
  grown : W.grownBy w r0
  from0 : v.ownBlock = r0 ∨ ∃ k, v.ownBlock = some k ∧ W.heap.size ≤ k
  base : B ≤ W.heap.size

theorem grown_past {W w w' : World} {r0 r : Option Nat} (h : W.grownBy w r0) (hg : w.grownBy w' r) (hr : r = r0 ∨ r = none ∨ ∃ k, r = some k ∧ W.heap.size ≤ k) : W.grownBy w' r0 :=
  ⟨hg.os.trans h.os, hg.tape.trans h.tape, hg.output.trans h.output, Nat.le_trans h.size hg.size, fun k hk hne => by
    rw [hg.block k (Nat.lt_of_lt_of_le hk h.size) (by
      rcases hr with rfl | rfl | ⟨j, rfl, hj⟩
      · exact hne
      · simp
      · simp; omega)]
    exact h.block k hk hne⟩

theorem Reads.grown {w w' : World} {g N : Nat} {arr : List Int} {r : Option Nat} (h : Reads w g N arr) (hg : w.grownBy w' r) (hne : some g ≠ r) : Reads w' g N arr :=
  ⟨h.1, Nat.lt_of_lt_of_le h.2.1 hg.size, fun j hj => hg.cell (h.2.2 j hj) hne⟩

/-- A new block, no other turned. -/
theorem BelInv.alloc {W : World} {B bt bb bu bd g z N : Nat} {arr : List Int} {bound : Int} {r0 : Option Nat} {v : Value} {xs : List Int} {w : World} (h : BelInv W B bt bb bu bd g z N arr bound r0 v xs w) (o : Obj) :
    BelInv W B bt bb bu bd g z N arr bound r0 v xs (w.alloc o) := by
  have old : ∀ k x, w.heap[k]? = some x → (w.alloc o).heap[k]? = some x := fun k x hk => (heap_alloc_old w o (Array.getElem?_eq_some_iff.1 hk).1).trans hk
  exact ⟨old _ _ h.tree, old _ _ h.bnd, old _ _ h.fn, old _ _ h.buf, h.own.alloc o, h.loc, h.row.grown (World.grownBy_alloc w o none) (by simp), grown_past h.grown (World.grownBy_alloc w o none) (.inr (.inl rfl)), h.from0, h.base⟩

theorem BelInv.drew {W : World} {B bt bb bu bd g z N : Nat} {arr : List Int} {bound : Int} {r0 : Option Nat} {v : Value} {xs : List Int} {w : World} (h : BelInv W B bt bb bu bd g z N arr bound r0 v xs w) :
    BelInv W B bt bb bu bd g z N arr bound r0 v xs w.drew :=
  ⟨h.tree, h.bnd, h.fn, h.buf, h.own, h.loc, h.row, grown_drew h.grown, h.from0, h.base⟩

/-- The append and the store behind it. -/
theorem BelInv.pushed {W : World} {B bt bb bu bd g z N : Nat} {arr : List Int} {bound : Int} {r0 : Option Nat} {v v' : Value} {xs : List Int} {y : Int} {w w' : World} (h : BelInv W B bt bb bu bd g z N arr bound r0 v xs w)
    (hb : W.heap.size ≤ bu ∧ bu ≠ bt ∧ bu ≠ bb ∧ bu ≠ bd ∧ bu ≠ g)
    (ho : w'.ownsRow B 3 1 v' (xs.length + 1) (xs.map (Value.int .i64) ++ [.int .i64 y])) (hg : w.grownBy w' v.ownBlock) (hloc : v'.ownBlock = v.ownBlock ∨ v'.ownBlock = some w.heap.size) :
    BelInv W B bt bb bu bd g z N arr bound r0 v' (xs ++ [y]) (w'.setCell ⟨bu, 0, none⟩ v') := by
  obtain ⟨hb0, hb1, hb2, hb3, hb4⟩ := hb
  have hlt : ∀ k x, w.heap[k]? = some x → k < w.heap.size := fun k x hk => (Array.getElem?_eq_some_iff.1 hk).1
  have keep : ∀ k x, w.heap[k]? = some x → (∀ j, v.ownBlock = some j → j ≠ k) → w'.heap[k]? = some x := fun k x hk hne => by
    rw [hg.block k (hlt k x hk) (fun e => hne k e.symm rfl)]
    exact hk
  have set : ∀ k x, k ≠ bu → w'.heap[k]? = some x → (w'.setCell ⟨bu, 0, none⟩ v').heap[k]? = some x := fun k x hne hk => (heap_setCell_other w' ⟨bu, 0, none⟩ k v' hne).trans hk
  have hv' : ∀ k, v'.ownBlock = some k → k ≠ bt ∧ k ≠ bb ∧ k ≠ bd ∧ k ≠ bu ∧ k ≠ g := fun k hk => by
    rcases hloc with e | e
    · exact h.loc k (by rw [← e]; exact hk)
    · rw [e] at hk
      cases hk
      have h1 := hlt _ _ h.tree
      have h2 := hlt _ _ h.bnd
      have h3 := hlt _ _ h.fn
      have h4 := hlt _ _ h.buf
      have h5 := h.row.2.1
      omega
  refine ⟨set _ _ (Ne.symm hb1) (keep _ _ h.tree fun j hj => (h.loc j hj).1), set _ _ (Ne.symm hb2) (keep _ _ h.bnd fun j hj => (h.loc j hj).2.1), set _ _ (Ne.symm hb3) (keep _ _ h.fn fun j hj => (h.loc j hj).2.2.1), ?_, ?_, hv', ?_, ?_, ?_, h.base⟩
  · exact heap_setCell_same w' bu 0 _ 22 v' (keep _ _ h.buf fun j hj => (h.loc j hj).2.2.2.1)
  · rw [List.length_append, List.map_append]
    exact ho.kept (grown_set w' bu 0 v') (Or.inr fun e => (hv' bu e).2.2.2.1 rfl)
  · exact (h.row.grown hg (fun e => (h.loc g e.symm).2.2.2.2 rfl)).grown (grown_set w' bu 0 v') (by simp; exact Ne.symm hb4)
  · refine grown_past (grown_past h.grown hg ?_) (grown_set w' bu 0 v') (.inr (.inr ⟨bu, rfl, hb0⟩))
    rcases h.from0 with e | e
    · exact .inl e
    · exact .inr (.inr e)
  · rcases hloc with e | e
    · rw [e]; exact h.from0
    · exact .inr ⟨_, e, h.grown.size⟩

/-- What a call at p has found. -/
def Found (H z : Nat) (arr : List Int) (bound : Int) (p : Nat) (l : List Int) : Prop := ∀ y : Int, y ∈ l ↔ ∃ x : Nat, y = x ∧ x < z ∧ Under H p x ∧ iAt arr (z + x) < bound

theorem Try.enters29 : ∀ args w, (callFunc 29 args).run Try.prog w = .ok (.enter 29 args) w := enters_of Try.func29 (by kernel_rfl) rfl

def DescPost (W : World) (B bt bb bu bd g z N H k : Nat) (arr : List Int) (bound : Int) (r0 : Option Nat) (xs : List Int) (p : Nat) (w' : World) : Prop :=
  ∃ l v', BelInv W B bt bb bu bd g z N arr bound r0 v' (xs ++ l) w' ∧ Found H z arr bound p l ∧ l.length ≤ 2 ^ k

theorem BelInv.bufAt {W : World} {B bt bb bu bd g z N : Nat} {arr : List Int} {bound : Int} {r0 : Option Nat} {v : Value} {xs : List Int} {w w' : World} (h : BelInv W B bt bb bu bd g z N arr bound r0 v xs w) (hg : w.grownBy w' v.ownBlock) :
    w'.heap[bu]? = some (.cells #[v] 22 (0, 0)) := by
  rw [hg.block bu (Array.getElem?_eq_some_iff.1 h.buf).1 (fun e => (h.loc bu e.symm).2.2.2.1 rfl)]
  exact h.buf

set_option maxHeartbeats 6400000 in
set_option maxRecDepth 100000 in
theorem desc_cut (W : World) (B bt bb bu bd g z N H : Nat) (arr : List Int) (bound : Int) (r0 : Option Nat) (HZ : Hid (z = 2 ^ H)) (HN : Hid (N = 2 * z)) (hz : (z : Int) ≤ 2000000) (hM : Hid (IsMin H arr)) (hb : Hid (W.heap.size ≤ bu ∧ bu ≠ bt ∧ bu ≠ bb ∧ bu ≠ bd ∧ bu ≠ g)) (k p : Nat) (w : World) (v : Value) (xs : List Int) (h1 : 1 ≤ p) (h2 : p < 2 * z) (hI : Hid (BelInv W B bt bb bu bd g z N arr bound r0 v xs w)) (hge : bound ≤ iAt arr p) :
    Calls Try.prog 29 #[.int .i64 p, .pointer (some ⟨bt, 0, none⟩), .pointer (some ⟨bb, 0, none⟩), .pointer (some ⟨bu, 0, none⟩), .pointer (some ⟨bd, 0, none⟩)] w fun e w' => e = .returned (.tuple #[]) ∧ DescPost W B bt bb bu bd g z N H k arr bound r0 xs p w' := by
  have c0 := cell_of_row w bt 0 _ _ _ hI.out.tree
  have c1 := cell_of_row w bt 1 _ _ _ hI.out.tree
  have c2 := cell_of_row w bb 0 _ _ _ hI.out.bnd
  have c3 := cell_of_row w bu 0 _ _ _ hI.out.buf
  have c4 := cell_of_row w bd 0 _ _ _ hI.out.fn
  simp only [descF, List.getElem?_toArray, List.getElem?_cons_zero, List.getElem?_cons_succ] at c0 c1 c2 c3 c4
  have e1 := hI.out.row.2.2 p (by have := HN.out; omega)
  have b6 : (0 : Int) ≤ (p : Int) := by omega
  have b7 : (p : Int) < N := by have := HN.out; omega
  go_enter Try.func29, Try.ntmps29
  go_wp2_with fail
  go_region
  go_wp2_with fail
  go_returns
  refine ⟨rfl, [], v, by rw [List.append_nil]; exact hI.out.drew, fun y => ⟨(fun h => by cases h), ?_⟩, Nat.zero_le _⟩
  rintro ⟨x, rfl, hxz, hu, hlt⟩
  have := (hM.out.node bound p h1 (by rw [← HZ.out]; exact h2)).2 ⟨x, by rw [← HZ.out]; exact hxz, hu, by rw [← HZ.out]; exact hlt⟩
  omega

set_option maxHeartbeats 6400000 in
set_option maxRecDepth 100000 in
theorem desc_leaf (W : World) (B bt bb bu bd g z N H : Nat) (arr : List Int) (bound : Int) (r0 : Option Nat) (HZ : Hid (z = 2 ^ H)) (HN : Hid (N = 2 * z)) (hz : (z : Int) ≤ 2000000) (hM : Hid (IsMin H arr)) (hb : Hid (W.heap.size ≤ bu ∧ bu ≠ bt ∧ bu ≠ bb ∧ bu ≠ bd ∧ bu ≠ g)) (k p : Nat) (w : World) (v : Value) (xs : List Int) (h1 : 1 ≤ p) (h2 : p < 2 * z) (hx : Hid (xs.length + 1 ≤ 100000000)) (hI : Hid (BelInv W B bt bb bu bd g z N arr bound r0 v xs w)) (hge : iAt arr p < bound) (hpz : (z : Int) ≤ p) :
    Calls Try.prog 29 #[.int .i64 p, .pointer (some ⟨bt, 0, none⟩), .pointer (some ⟨bb, 0, none⟩), .pointer (some ⟨bu, 0, none⟩), .pointer (some ⟨bd, 0, none⟩)] w fun e w' => e = .returned (.tuple #[]) ∧ DescPost W B bt bb bu bd g z N H k arr bound r0 xs p w' := by
  obtain ⟨i3, hi3, z30, z31, z32⟩ := info_parts Try.info3
  have c0 := cell_of_row w bt 0 _ _ _ hI.out.tree
  have c1 := cell_of_row w bt 1 _ _ _ hI.out.tree
  have c2 := cell_of_row w bb 0 _ _ _ hI.out.bnd
  have c3 := cell_of_row w bu 0 _ _ _ hI.out.buf
  have c4 := cell_of_row w bd 0 _ _ _ hI.out.fn
  simp only [descF, List.getElem?_toArray, List.getElem?_cons_zero, List.getElem?_cons_succ] at c0 c1 c2 c3 c4
  have e1 := hI.out.row.2.2 p (by have := HN.out; omega)
  have b6 : (0 : Int) ≤ (p : Int) := by omega
  have b7 : (p : Int) < N := by have := HN.out; omega
  have hI2 := hidden ((hI.out.alloc (.cells #[.int .i64 ((p : Int) - z)] 3)).drew)
  go_enter Try.func29, Try.ntmps29
  go_wp2_with fail
  go_region
  go_wp2_with (at_builtin; refine wpList_append_own_at _ rfl _ _ 22 rfl B 3 i3 (.int .i64 0) 1 8 Try.underlying22 hi3 z30 z31 z32 rfl (by decide) v xs.length (xs.map (Value.int .i64)) rfl hI2.out.own ⟨w.heap.size, 0, none⟩ 1 1 [.int .i64 ((p : Int) - z)] rfl rfl (cell_one_new _ _ _) (ints_oneCell .i64 [(p : Int) - z]) (by have := hx.out; unfold maxLen; omega) (by have := hx.out; omega) (by have := hI2.out.grown.size; have := hI2.out.base; omega) ?_; intro v' w1 hown' hgrow hnil hloc; obtain ⟨g', cap', rfl⟩ := own_form hown'; have cb := cell_of_row w1 bu 0 _ _ _ (hI2.out.bufAt hgrow); have fb := frozen_of_row w1 bu 0 _ _ (hI2.out.bufAt hgrow); simp only [List.getElem?_toArray, List.getElem?_cons_zero] at cb)
  go_returns
  refine ⟨rfl, [(p : Int) - z], _, hI2.out.pushed hb.out hown' hgrow hloc, fun y => ?_, one_le_pow k⟩
  rw [List.mem_singleton]
  have hpz' : 2 ^ H ≤ p := by have := HZ.out; omega
  constructor
  · rintro rfl
    refine ⟨p - z, by omega, by omega, (under_leaf hpz' (by have := HZ.out; omega)).2 (by have := HZ.out; omega), ?_⟩
    rw [show z + (p - z) = p by omega]
    exact hge
  · rintro ⟨x, rfl, hxz, hu, hlt⟩
    have h3 := (under_leaf hpz' (by have := HZ.out; omega)).1 hu
    have := HZ.out
    omega

set_option maxHeartbeats 6400000 in
set_option maxRecDepth 100000 in
theorem desc_any (W : World) (B bt bb bu bd g z N H : Nat) (arr : List Int) (bound : Int) (r0 : Option Nat) (HZ : Hid (z = 2 ^ H)) (HN : Hid (N = 2 * z)) (hz : (z : Int) ≤ 2000000) (hM : Hid (IsMin H arr)) (hb : Hid (W.heap.size ≤ bu ∧ bu ≠ bt ∧ bu ≠ bb ∧ bu ≠ bd ∧ bu ≠ g)) :
    ∀ (k p : Nat) (w : World) (v : Value) (xs : List Int), Hid (z ≤ p * 2 ^ k) → 1 ≤ p → p < 2 * z → Hid (xs.length + 2 ^ k ≤ 100000000) → Hid (BelInv W B bt bb bu bd g z N arr bound r0 v xs w) →
    Calls Try.prog 29 #[.int .i64 p, .pointer (some ⟨bt, 0, none⟩), .pointer (some ⟨bb, 0, none⟩), .pointer (some ⟨bu, 0, none⟩), .pointer (some ⟨bd, 0, none⟩)] w fun e w' => e = .returned (.tuple #[]) ∧ DescPost W B bt bb bu bd g z N H k arr bound r0 xs p w' := by
  intro k
  induction k with
  | zero =>
    intro p w v xs hk h1 h2 hx hI
    by_cases hge : bound ≤ iAt arr p
    · exact desc_cut W B bt bb bu bd g z N H arr bound r0 HZ HN hz hM hb 0 p w v xs h1 h2 hI hge
    · exact desc_leaf W B bt bb bu bd g z N H arr bound r0 HZ HN hz hM hb 0 p w v xs h1 h2 hx hI (by omega) (by have := hk.out; simp at this; omega)
  | succ k ih =>
    intro p w v xs hk h1 h2 hx hI
    by_cases hge : bound ≤ iAt arr p
    · exact desc_cut W B bt bb bu bd g z N H arr bound r0 HZ HN hz hM hb (k + 1) p w v xs h1 h2 hI hge
    by_cases hpz : z ≤ p
    · exact desc_leaf W B bt bb bu bd g z N H arr bound r0 HZ HN hz hM hb (k + 1) p w v xs h1 h2 (hidden (by have := hx.out; have := Nat.two_pow_pos (k + 1); omega)) hI (by omega) (by omega)
    have hpz' : (p : Int) < z := by omega
    have hge' : iAt arr p < bound := by omega
    clear hge hpz
    have c0 := cell_of_row w bt 0 _ _ _ hI.out.tree
    have c1 := cell_of_row w bt 1 _ _ _ hI.out.tree
    have c2 := cell_of_row w bb 0 _ _ _ hI.out.bnd
    have c3 := cell_of_row w bu 0 _ _ _ hI.out.buf
    have c4 := cell_of_row w bd 0 _ _ _ hI.out.fn
    simp only [descF, List.getElem?_toArray, List.getElem?_cons_zero, List.getElem?_cons_succ] at c0 c1 c2 c3 c4
    have e1 := hI.out.row.2.2 p (by have := HN.out; omega)
    have b6 : (0 : Int) ≤ (p : Int) := by omega
    have b7 : (p : Int) < N := by have := HN.out; omega
    obtain ⟨q1, hq1⟩ : ∃ q, q = 2 * p := ⟨_, rfl⟩
    obtain ⟨q2, hq2⟩ : ∃ q, q = 2 * p + 1 := ⟨_, rfl⟩
    have er1 : 2 * (p : Int) = (q1 : Int) := by omega
    have er2 : (q1 : Int) + 1 = (q2 : Int) := by omega
    have hp2 := pow_succ_two k
    have hk' : z ≤ q1 * 2 ^ k := by
      have := hk.out
      rw [hp2] at this
      rw [hq1, Nat.mul_assoc, Nat.mul_left_comm]
      exact this
    have hk2 : z ≤ q2 * 2 ^ k := Nat.le_trans hk' (Nat.mul_le_mul_right _ (by omega))
    have HQ1 := hidden hq1
    have HQ2 := hidden hq2
    have HK1 := hidden hk'
    have HK2 := hidden hk2
    clear hq1 hq2 hk' hk2 hp2
    go_enter Try.func29, Try.ntmps29
    go_wp2_with fail
    go_region
    go_wp2_with fail
    have hlen := hx.out
    have hp3 := pow_succ_two k
    have hpp := Nat.two_pow_pos k
    refine (ih q1 w.drew v xs HK1 (by have := HQ1.out; omega) (by have := HQ1.out; omega) (hidden (by omega)) (hidden hI.out.drew)).mono ?_
    rintro e w1 ⟨rfl, l1, v1, hI1, hF1, hl1⟩
    have c5 := cell_of_row w1 bd 0 _ _ _ hI1.fn
    simp only [descF, List.getElem?_toArray, List.getElem?_cons_zero, List.getElem?_cons_succ] at c5
    have HI1 := hidden hI1
    have HF1 := hidden hF1
    have HL := hidden (show xs.length + l1.length + 2 ^ k ≤ 100000000 by omega)
    have HL1 := hidden hl1
    have HP := hidden hp3
    clear hI1 hF1 hlen hp3 hpp hl1
    go_wp2_with fail
    refine (ih q2 w1 v1 (xs ++ l1) HK2 (by have := HQ2.out; omega) (by have := HQ2.out; omega) (hidden (by rw [List.length_append]; exact HL.out)) HI1).mono ?_
    rintro e w2 ⟨rfl, l2, v2, hI2, hF2, hl2⟩
    go_wp2_with fail
    go_returns
    refine ⟨rfl, l1 ++ l2, v2, by rw [← List.append_assoc]; exact hI2, fun y => ?_, by rw [List.length_append]; have := HL1.out; have := HP.out; omega⟩
    rw [List.mem_append, HF1.out y, hF2 y]
    have hsp := fun x => under_split (H := H) (p := p) (i := x) h1 (by rw [← HZ.out]; omega)
    rw [HQ1.out, HQ2.out]
    constructor
    · rintro (⟨x, a1, a2, a3, a4⟩ | ⟨x, a1, a2, a3, a4⟩)
      · exact ⟨x, a1, a2, (hsp x).2 (.inl a3), a4⟩
      · exact ⟨x, a1, a2, (hsp x).2 (.inr a3), a4⟩
    · rintro ⟨x, a1, a2, a3, a4⟩
      rcases (hsp x).1 a3 with a3 | a3
      · exact .inl ⟨x, a1, a2, a3, a4⟩
      · exact .inr ⟨x, a1, a2, a3, a4⟩

/-- What 'below' hands back. -/
def BelowPost (W : World) (B z lo hi : Nat) (arr : List Int) (bound : Int) (r0 : Option Nat) (e : Ending) (w' : World) : Prop :=
  ∃ (v : Value) (xs : List Int), e = .returned v ∧ w'.ownsRow B 3 1 v xs.length (xs.map (Value.int .i64)) ∧ (∀ y : Int, y ∈ xs ↔ ∃ x : Nat, y = x ∧ lo ≤ x ∧ x < hi ∧ iAt arr (z + x) < bound) ∧ xs.length ≤ 100000000 ∧
    W.grownBy w' r0 ∧ (v.ownBlock = r0 ∨ ∃ k, v.ownBlock = some k ∧ W.heap.size ≤ k)

/-- While 'below' goes over the cover. -/
def BelCov (W : World) (B bt bb bu bd g z N H : Nat) (arr : List Int) (bound : Int) (r0 : Option Nat) (ps : List Nat) (w : World) : Prop :=
  ∃ (v : Value) (xs : List Int), BelInv W B bt bb bu bd g z N arr bound r0 v xs w ∧ (∀ y : Int, y ∈ xs ↔ ∃ x : Nat, y = x ∧ x < z ∧ (∃ p ∈ ps, Under H p x) ∧ iAt arr (z + x) < bound) ∧ xs.length ≤ ps.length * z

theorem coverL_len : ∀ (f l r : Nat), (coverL f l r).length ≤ 2 * f
  | 0, _, _ => by simp [coverL]
  | f + 1, l, r => by
    rw [coverL]
    split
    · have := coverL_len f ((l + l % 2) / 2) (r / 2)
      simp only [List.length_append]
      split <;> split <;> simp <;> omega
    · simp

set_option maxHeartbeats 6400000 in
set_option maxRecDepth 100000 in
theorem below_any (B g z N H lo hi : Nat) (arr : List Int) (bound : Int) (a0 : Option Addr) (cap0 : Nat) (w : World) (HZ : Hid (z = 2 ^ H)) (HN : Hid (N = 2 * z)) (hz : (z : Int) ≤ 2000000) (hlh : (lo : Int) ≤ 2000000) (hh : (hi : Int) ≤ z) (hM : Hid (IsMin H arr)) (hr : Hid (Reads w g N arr))
    (ho : Hid (w.ownsRow B 3 1 (.slice a0 0 cap0) 0 [])) (hB : B ≤ w.heap.size) (hne : Hid (∀ k, (Value.slice a0 0 cap0).ownBlock = some k → k ≠ g)) :
    Calls Try.prog 22 #[.agg #[.int .i64 z, .slice (some ⟨g, 0, none⟩) N N], .int .i64 lo, .int .i64 hi, .int .i64 bound, .slice a0 0 cap0] w fun e w' => BelowPost w B z lo hi arr bound (Value.slice a0 0 cap0).ownBlock e w' := by
  have hmf : ∀ (fn : Fn) (first cap : Array Value) (w : World), (Instr.makeFunc fn first cap).run Try.prog w = .ok (.func fn first cap) w := fun _ _ _ _ => rfl
  go_enter Try.func22, Try.ntmps22
  go_wp2_with fail
  have hN4 : N = 2 * z := HN.out
  have hH : H ≤ 20 := by
    rcases Nat.lt_or_ge 20 H with h | h
    · have h1 : 2 ^ 21 ≤ 2 ^ H := Nat.pow_le_pow_right (by decide) h
      have := HZ.out
      omega
    · exact h
  refine (cover_any 29 #[.pointer (some ⟨w.heap.size, 0, none⟩), .pointer (some ⟨w.heap.size + 1, 0, none⟩), .pointer (some ⟨w.heap.size + 1 + 1, 0, none⟩), .pointer (some ⟨w.heap.size + 1 + 1 + 1, 0, none⟩)] z H lo hi
    (BelCov w B w.heap.size (w.heap.size + 1) (w.heap.size + 1 + 1) (w.heap.size + 1 + 1 + 1) g z N H arr bound (Value.slice a0 0 cap0).ownBlock) _ HZ hz hlh hh Try.enters29 (hidden ?_) (hidden ?_)).mono ?_
  · rintro ps p wx ⟨rest, hrest⟩ h1 h2 ⟨v, xs, hI, hF, hl⟩
    have hps : ps.length + 1 ≤ 42 := by
      have h3 : (cover H lo hi).length ≤ 2 * (H + 1) := coverL_len _ _ _
      rw [← hrest] at h3
      simp at h3
      omega
    have hz2 : z ≤ 2000000 := by omega
    have hmul : ps.length * z ≤ 42 * 2000000 := Nat.mul_le_mul (by omega) hz2
    refine (desc_any w B w.heap.size (w.heap.size + 1) (w.heap.size + 1 + 1) (w.heap.size + 1 + 1 + 1) g z N H arr bound _ HZ HN hz hM (hidden ⟨by omega, by omega, by omega, by omega, by have := hr.out.2.1; omega⟩) H p wx v xs (hidden (by rw [HZ.out]; exact Nat.le_mul_of_pos_left _ h1)) h1 h2 (hidden (by rw [← HZ.out]; omega)) (hidden hI)).mono ?_
    rintro e w' ⟨rfl, l, v', hI', hF', hl'⟩
    refine ⟨rfl, v', xs ++ l, hI', fun y => ?_, ?_⟩
    · rw [List.mem_append, hF y, hF' y]
      constructor
      · rintro (⟨x, a1, a2, ⟨q, hq, hu⟩, a4⟩ | ⟨x, a1, a2, hu, a4⟩)
        · exact ⟨x, a1, a2, ⟨q, List.mem_append.2 (.inl hq), hu⟩, a4⟩
        · exact ⟨x, a1, a2, ⟨p, by simp, hu⟩, a4⟩
      · rintro ⟨x, a1, a2, ⟨q, hq, hu⟩, a4⟩
        rcases List.mem_append.1 hq with hq | hq
        · exact .inl ⟨x, a1, a2, ⟨q, hq, hu⟩, a4⟩
        · rw [List.mem_singleton] at hq
          subst hq
          exact .inr ⟨x, a1, a2, hu, a4⟩
    · rw [List.length_append, List.length_append, Nat.add_mul]
      rw [← HZ.out] at hl'
      simp
      omega
  · have hg := hr.out.2.1
    have hrr := hr.out
    have hk : ∀ k, (Value.slice a0 0 cap0).ownBlock = some k → k < w.heap.size := fun k hk => (ho.out.lt k hk).2
    refine ⟨.slice a0 0 cap0, [], ((BelInv.alloc ⟨?_, ?_, ?_, ?_, ?_, ?_, ?_, ?_, .inl rfl, hB⟩ _).drew), fun y => ⟨(fun h => by cases h), fun ⟨x, _, _, ⟨q, hq, _⟩, _⟩ => by cases hq⟩, by simp⟩
    · exact (heap_alloc_old _ _ (by simp <;> omega)).trans ((heap_alloc_old _ _ (by simp <;> omega)).trans ((heap_alloc_old _ _ (by simp)).trans (heap_alloc_new w _)))
    · exact (heap_alloc_old _ _ (by simp <;> omega)).trans ((heap_alloc_old _ _ (by simp)).trans (heap_two w _ _))
    · exact heap_four w _ _ _ _
    · exact (heap_alloc_old _ _ (by simp)).trans (heap_three w _ _ _)
    · exact (((ho.out.alloc _).alloc _).alloc _).alloc _
    · intro k h3
      have h4 := hk k h3
      have h5 := hne.out k h3
      omega
    · exact (((hrr.grown (World.grownBy_alloc _ _ none) (by simp)).grown (World.grownBy_alloc _ _ none) (by simp)).grown (World.grownBy_alloc _ _ none) (by simp)).grown (World.grownBy_alloc _ _ none) (by simp)
    · exact (((World.grownBy_alloc _ _ _).trans (World.grownBy_alloc _ _ _)).trans (World.grownBy_alloc _ _ _)).trans (World.grownBy_alloc _ _ _)
  · rintro e w1 ⟨rfl, v, xs, hI, hF, hl⟩
    have c0 := cell_of_row w1 (w.heap.size + 1 + 1) 0 _ _ _ hI.buf
    simp only [List.getElem?_toArray, List.getElem?_cons_zero, List.getElem?_cons_succ] at c0
    have hcl : (cover H lo hi).length ≤ 42 := Nat.le_trans (coverL_len _ _ _) (by omega)
    have hmul : (cover H lo hi).length * z ≤ 42 * 2000000 := Nat.mul_le_mul hcl (by omega)
    have HI := hidden hI
    have HF := hidden hF
    have HL := hidden (show xs.length ≤ 100000000 by omega)
    clear hI hF hl hcl hmul hN4 hH
    go_wp2_with fail
    go_returns
    refine ⟨v, xs, rfl, HI.out.own, fun y => ?_, HL.out, HI.out.grown, HI.out.from0⟩
    rw [HF.out y]
    constructor
    · rintro ⟨x, a1, a2, a3, a4⟩
      have := (cover_under (H := H) (lo := lo) (hi := hi) (i := x) (by rw [← HZ.out]; omega) (by rw [← HZ.out]; exact a2)).1 a3
      exact ⟨x, a1, this.1, this.2, a4⟩
    · rintro ⟨x, a1, a2, a3, a4⟩
      exact ⟨x, a1, by omega, (cover_under (H := H) (lo := lo) (hi := hi) (i := x) (by rw [← HZ.out]; omega) (by rw [← HZ.out]; omega)).2 ⟨a2, a3⟩, a4⟩

end Go.Proofs.Qxb6612201a
