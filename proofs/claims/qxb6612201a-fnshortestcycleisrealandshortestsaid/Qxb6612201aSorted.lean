/-
  WALK: slices.SortedFunc(slices.Values(ws), by the item).
-/
import Derived.Test.Qxb6612201aSortW
import Derived.Shelf.SlSortCmp.NoneTotal
import Derived.Handy
set_option maxRecDepth 100000
namespace Go.Proofs.Qxb6612201a
open Go.RowKit Go.Shelf Go.Lib Go.Sort
set_option linter.unusedVariables false
set_option linter.unusedSimpArgs false

def SortedPost (zs : List Tri) (w : World) (e : Ending) (w' : World) : Prop :=
  ∃ v zs', e = .returned v ∧ zs'.Perm zs ∧ zs'.Pairwise (fun a b => a.1 ≤ b.1) ∧ TRow w'.heap.size w' v zs' ∧ RowKit.Below w.heap.size w w'

theorem sort_any (v : Value) (zs : List Tri) (B : Nat) (w : World) (hB : B ≤ w.heap.size) (hl : zs.length ≤ 1000000) (ho : w.ownsRow B 64 3 v zs.length (zs.flatMap encT)) :
    Calls Try.prog 44 #[v, .func (.func 34) #[] #[]] w fun e w' => e = .returned (.tuple #[]) ∧ ∃ zs', zs'.Perm zs ∧ zs'.Pairwise (fun a b => a.1 ≤ b.1) ∧ TRow w'.heap.size w' v zs' ∧ RowKit.Below B w w' := by
  rcases ho.2 with ⟨h0, h1⟩ | ⟨g, cap, cur, hv, h1, h2, h3⟩
  · subst h0
    have hz : zs = [] := List.length_eq_zero_iff.1 h1
    subst hz
    refine (AnyF.slices_SortFunc_none Try.sortT none 0 (.func (.func 34) #[] #[]) w).mono ?_
    rintro e w' ⟨rfl, rfl⟩
    exact ⟨rfl, [], List.Perm.refl _, List.Pairwise.nil, .inl ⟨rfl, rfl⟩, RowKit.Below.refl _ _⟩
  · subst hv
    obtain ⟨hc, hf⟩ := own_cells3 ho
    have hlt : g < w.heap.size := (Array.getElem?_eq_some_iff.1 h2).1
    have hcon := AnyQ.slices_SortFunc Try.sortT 3 Try.isAgg64 Try.sizeOf64 encT (fun _ => rfl) (fun x v hv => by simp [encT] at hv; rcases hv with rfl | rfl | rfl <;> rfl) (fun x y => Lib.compareInt x.1 y.1) swoItem 34 #[] g 0 cap zs.toArray w Try.enters34 (cmpLays34 g 0 _ w) (holdsK_of_cells hc hf) hlt (by simp; omega)
    refine hcon.mono ?_
    rintro e w' ⟨rfl, d', n, os, hp, hs, rfl⟩
    have hds : d'.size = zs.length := by have := hp.1; simpa using this
    refine ⟨rfl, d'.toList, ?_, ?_, .inr ⟨g, cap, by simp [hds], ?_, ?_⟩, (turned_sort w g n d' os).below hB (by simpa using h1)⟩
    · have h5 := hp.2.2
      simpa [Array.extract_eq_self_of_le (by omega : d'.size ≤ zs.length)] using h5
    · rw [List.pairwise_iff_getElem]
      intro i j hi hj hij
      have h5 := hs i j (Nat.zero_le _) hij (by simp at hj ⊢; omega)
      rw [ltItem] at h5
      simp at hi hj
      rw [getElem!_pos d' i hi, getElem!_pos d' j hj] at h5
      simp at h5
      simpa using h5
    · exact Nat.lt_of_lt_of_le hlt (turned_sort w g n d' os).size
    · have h6 : HoldsK encT 3 (sortWorldK encT 3 w g 0 n d' os) g 0 d' := by
        unfold sortWorldK HoldsK
        refine holds_grow _ _ _ _ _ _ (by simp [putRowK, Sort.ahead]; exact hlt) ?_
        exact holdsK_putRowK encT 3 (Sort.ahead w n) g 0 zs.toArray d' (holdsK_of_cells hc hf) (by simpa using hds)
      exact cells_of_holdsK h6

set_option maxHeartbeats 1000000 in
theorem sortedFunc_any (Bs : Nat) (sv : Value) (zs : List Tri) (hl : zs.length ≤ 1000000) (w : World) (hBs : Bs < w.heap.size) (hc : w.cell? ⟨Bs, 0, none⟩ = some sv) (hI : TRow w.heap.size w sv zs) :
    Calls Try.prog 32 #[.func (.func 45) #[] #[.pointer (some ⟨Bs, 0, none⟩)], .func (.func 34) #[] #[]] w fun e w' => SortedPost zs w e w' := by
  have h1 := hidden (collect_any Bs sv zs hl w hBs hc hI)
  clear hI hc
  go_enter Try.func32, Try.ntmps32
  go_wp2_with (go_at_call 43; refine h1.out.mono ?_; rintro e w1 ⟨v, rfl, ho, hb⟩)
  refine (sort_any v zs w.heap.size w1 hb.size hl ho).mono ?_
  rintro e w2 ⟨rfl, zs', h3, h4, h5, h6⟩
  have H := hidden (And.intro h3 (And.intro h4 (And.intro h5 (hb.trans h6))))
  clear h3 h4 h5 h6 ho hb
  go_wp2_with fail
  go_returns
  exact ⟨v, zs', rfl, H.out.1, H.out.2.1, H.out.2.2.1, H.out.2.2.2⟩

end Go.Proofs.Qxb6612201a
