/-
  PLAIN: the tree of the first write of each item that is not yet taken.
-/
import Derived.Test.Qxb6612201aSrch
namespace Go.Proofs.Qxb6612201a
set_option linter.unusedVariables false

/-- The place of x bears the first write of x that is not taken, or none. -/
structure Pend (H z items : Nat) (ws : Nat → List (Int × Int)) (tw arr : List Int) : Prop where
  isMin : IsMin H arr
  at_ : ∀ x, x < items → iAt arr (z + x) = ((ws x)[(iAt tw x).toNat]?.map Prod.fst).getD 9223372036854775807
  out : ∀ x, items ≤ x → x < z → iAt arr (z + x) = 9223372036854775807

/-- All writes of x ahead of 'before' are met. -/
def DoneW (ws : Nat → List (Int × Int)) (before : Int) (ds : List Int) (x : Nat) : Prop := ∀ y ∈ ws x, y.1 < before → 0 ≤ dAt ds y.2.toNat

theorem DoneW.more {ws : Nat → List (Int × Int)} {before : Int} {ds ds' : List Int} {x : Nat} (h : DoneW ws before ds x) (hm : More ds ds') : DoneW ws before ds' x := fun y hy hb => hm _ (h y hy hb)

/-- The items whose place is not below the bound have nothing left ahead of it. -/
theorem Pend.idle {H z items : Nat} {ws : Nat → List (Int × Int)} {tw arr ds : List Int} (h : Pend H z items ws tw arr) (hT : Taken items ws tw ds) (hs : ∀ x, (ws x).Pairwise (fun a b => a.1 ≤ b.1)) {before : Int} {x : Nat} (hx : x < items) (hge : before ≤ iAt arr (z + x)) : DoneW ws before ds x := by
  intro y hy hb
  obtain ⟨j, hj⟩ := List.mem_iff_getElem?.1 hy
  have h0 := hT.low x hx
  refine hT.met x hx j y ?_ hj
  have h1 : j < (iAt tw x).toNat := sorted_prefix (hs x) (b := before) (fun z' hz' => by
    rw [h.at_ x hx, hz'] at hge
    simpa using hge) hj hb
  omega

/-- Its place set anew. -/
theorem Pend.set {H z items : Nat} {ws : Nat → List (Int × Int)} {tw arr arr' : List Int} (h : Pend H z items ws tw arr) (htw : tw.length = items) (hz : items ≤ z) {x k : Nat} (hx : x < items) {v : Int} (hv : v = ((ws x)[k]?.map Prod.fst).getD 9223372036854775807)
    (hm : IsMin H arr') (ha : ∀ j, j < z → iAt arr' (z + j) = if j = x then v else iAt arr (z + j)) : Pend H z items ws (tw.set x (k : Int)) arr' := by
  refine ⟨hm, fun j hj => ?_, fun j hj hjz => ?_⟩
  · rw [ha j (by omega), iAt_set _ _ _ _ (by omega)]
    by_cases e : j = x
    · subst e
      rw [if_pos rfl, if_pos rfl, hv]
      simp
    · rw [if_neg e, if_neg e]
      exact h.at_ j hj
  · rw [ha j hjz, if_neg (by omega)]
    exact h.out j hj hjz

end Go.Proofs.Qxb6612201a
