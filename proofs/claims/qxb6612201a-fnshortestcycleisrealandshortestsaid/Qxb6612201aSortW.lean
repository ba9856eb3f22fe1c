/-
  WALKS: slices.SortFunc, slices.SortedFunc at []writeOf, by the item.
-/
import Derived.Test.Qxb6612201aSeqW
import Derived.Test.Qxb6612201aShelf
import Derived.Shelf.SlSortCmp.WholeK
import Derived.Shelf.Lay
import Derived.Ground.SlsfProg
set_option maxRecDepth 100000
namespace Go.Proofs.Qxb6612201a
open Go.RowKit Go.Shelf Go.Lib Go.Sort
set_option linter.unusedVariables false
set_option linter.unusedSimpArgs false
shelf_lay_g SlLaysF0.n6 Slsf 6 at Try 44 as Try.sortT

theorem Try.enters34 : ∀ args w, (callFunc 34 args).run Try.prog w = .ok (.enter 34 args) w := enters_of Try.func34 (by kernel_rfl) rfl

set_option maxHeartbeats 1000000 in
theorem closure34 (x y : Tri) (W : World) : Calls Try.prog 34 #[.agg #[.int .i64 x.1, .int .i64 x.2.1, .int .i64 x.2.2], .agg #[.int .i64 y.1, .int .i64 y.2.1, .int .i64 y.2.2]] W fun e w' => e = .returned (.int .i64 (Lib.compareInt x.1 y.1)) ∧ ∃ q os', w' = grow (W.drewN q) os' := by
  have hcon := fun W' => Try.cmp_Compare_int x.1 y.1 W'
  generalize Lib.compareInt x.1 y.1 = r at hcon ⊢
  go_enter Try.func34, Try.ntmps34
  go_wp2_with (go_at_call 35; refine (hcon _).mono ?_; rintro e w' ⟨rfl, rfl⟩)
  go_ret
  exact ⟨rfl, 0, _, by rw [alloc_eq_grow, alloc_eq_grow, grow_grow]; rfl⟩

theorem cmpLays34 (blk off size : Nat) (w : World) : CmpLays Try.prog 34 #[] encT 3 (fun x y => Lib.compareInt x.1 y.1) blk off size w :=
  fun _ _ _ _ x y => closure34 x y _

theorem ltItem (x y : Tri) : ltOf (fun x y : Tri => Lib.compareInt x.1 y.1) x y = decide (x.1 < y.1) := by
  unfold ltOf Lib.compareInt
  by_cases h1 : x.1 < y.1
  · simp [h1]
  · by_cases h2 : y.1 < x.1 <;> simp [h1, h2]

theorem swoItem : SWO (ltOf fun x y : Tri => Lib.compareInt x.1 y.1) where
  irrefl x := by rw [ltItem]; simp
  trans x y z h1 h2 := by rw [ltItem] at *; simp at *; omega
  ntrans x y z h1 h2 := by rw [ltItem] at *; simp at *; omega

/-- The cells of a row of triples. -/
def Cells3 (W : World) (b : Nat) (zs : List Tri) : Prop := ∀ j x, zs[j]? = some x → W.cell? ⟨b, j * 3, none⟩ = some (.int .i64 x.1) ∧ W.cell? ⟨b, j * 3 + 1, none⟩ = some (.int .i64 x.2.1) ∧ W.cell? ⟨b, j * 3 + 2, none⟩ = some (.int .i64 x.2.2)

theorem flat_get (zs : List Tri) (j : Nat) (x : Tri) (hx : zs[j]? = some x) (c : Nat) (hc : c < 3) : (zs.flatMap encT)[j * 3 + c]? = (encT x)[c]? := by
  induction zs generalizing j with
  | nil => simp at hx
  | cons y zs ih =>
    cases j with
    | zero =>
      simp at hx
      subst hx
      simp only [List.flatMap_cons]
      rw [List.getElem?_append_left (by simp [encT]; omega)]
      simp
    | succ j =>
      simp at hx
      have := ih j hx
      simp only [List.flatMap_cons]
      rw [List.getElem?_append_right (by simp [encT]; omega), ← this]
      congr 1
      simp [encT]
      omega

theorem own_cells3 {w : World} {B b n cap : Nat} {zs : List Tri} (h : w.ownsRow B 64 3 (.slice (some ⟨b, 0, none⟩) n cap) n (zs.flatMap encT)) : Cells3 w b zs ∧ ∀ j, w.frozen? ⟨b, j, none⟩ = false := by
  rcases h.2 with ⟨h0, _⟩ | ⟨g, c, cur, hv, h1, h2, h3, h4, h5, h6⟩
  · cases h0
  · simp only [Value.slice.injEq, Option.some.injEq, Addr.mk.injEq] at hv
    obtain ⟨⟨rfl, _, _⟩, _, rfl⟩ := hv
    refine ⟨fun j x hx => ?_, fun j => frozen_of_row w b j _ _ h2⟩
    have hc : ∀ c, c < 3 → w.cell? ⟨b, j * 3 + c, none⟩ = (encT x)[c]? := fun c hc => by
      have h7 := flat_get zs j x hx c hc
      rw [← h6] at h7
      have hl : (encT x)[c]?.isSome := by simp [encT]; omega
      rw [← h7, List.getElem?_take] at hl
      split at hl
      · rename_i hlt
        rw [List.getElem?_take, if_pos hlt] at h7
        rw [cell_of_row w b _ _ _ _ h2, ← h7]
        simp
      · simp at hl
    exact ⟨hc 0 (by omega), hc 1 (by omega), hc 2 (by omega)⟩

theorem holdsK_of_cells {w : World} {b : Nat} {zs : List Tri} (h : Cells3 w b zs) (hf : ∀ j, w.frozen? ⟨b, j, none⟩ = false) : HoldsK encT 3 w b 0 zs.toArray := by
  intro t ht
  simp only [size_flatK, List.size_toArray] at ht
  refine ⟨?_, hf _⟩
  rw [get_flatK _ _ _ t (by simpa using ht)]
  obtain ⟨j, hj⟩ : ∃ j, j = t / 3 := ⟨_, rfl⟩
  rw [← hj]
  have hjl : j < zs.length := by omega
  obtain ⟨x, hx⟩ : ∃ x, zs[j]? = some x := ⟨_, List.getElem?_eq_getElem hjl⟩
  obtain ⟨h1, h2, h3⟩ := h j x hx
  have e1 : (zs.toArray)[j]! = x := by
    rw [getElem!_pos zs.toArray j (by simpa using hjl)]
    simpa using (List.getElem?_eq_some_iff.1 hx).2
  rw [e1, Nat.zero_add]
  have h4 : t % 3 = 0 ∨ t % 3 = 1 ∨ t % 3 = 2 := by omega
  rcases h4 with e | e | e
  · rw [e, show t = j * 3 by omega]
    simpa [encT] using h1
  · rw [e, show t = j * 3 + 1 by omega]
    simpa [encT] using h2
  · rw [e, show t = j * 3 + 2 by omega]
    simpa [encT] using h3

theorem cells_of_holdsK {w : World} {b : Nat} {d : Array Tri} (h : HoldsK encT 3 w b 0 d) : Cells3 w b d.toList := by
  intro j x hx
  have hj : j < d.size := by have := (List.getElem?_eq_some_iff.1 hx).1; simpa using this
  have ex : d[j]! = x := by
    rw [getElem!_pos d j hj]
    have := (List.getElem?_eq_some_iff.1 hx).2
    simpa using this
  have hc : ∀ c, c < 3 → w.cell? ⟨b, j * 3 + c, none⟩ = some (encT x)[c]! := fun c hc => by
    have h1 := (h (j * 3 + c) (by simp; omega)).1
    rw [get_flatK _ _ _ _ (by omega), show (j * 3 + c) / 3 = j by omega, show (j * 3 + c) % 3 = c by omega, ex, Nat.zero_add] at h1
    exact h1
  exact ⟨hc 0 (by omega), hc 1 (by omega), hc 2 (by omega)⟩

theorem turned_sort (w : World) (b n : Nat) (d : Array Tri) (os : Array Obj) : Turned [b] w (sortWorldK encT 3 w b 0 n d os) := by
  refine ⟨rfl, rfl, rfl, ?_, fun k hk hne => ?_⟩
  · simp [sortWorldK, grow, putRowK]
  · simp only [sortWorldK, grow, putRowK]
    rw [Array.getElem?_append_left (by simp; exact hk)]
    simp only [putRow, mapBlock, Sort.ahead]
    rw [Array.getElem?_modify, if_neg (fun e => hne (by simp [e]))]

end Go.Proofs.Qxb6612201a
