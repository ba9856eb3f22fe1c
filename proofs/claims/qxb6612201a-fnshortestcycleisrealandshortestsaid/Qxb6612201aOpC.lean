/-
  WHAT shortestCycle's FIRST LOOP FINDS AND TURNS.
-/
import Derived.Test.Qxb6612201aOpT
namespace Go.Proofs.Qxb6612201a
open Go.RowKit Go.Shelf
set_option linter.unusedVariables false
set_option linter.unusedSimpArgs false

/-- What does not turn. -/
structure OpC (K : KO) (bx bWrb bRdb bTree bM z : Nat) (W0 : World) : Prop where
  ok : K.Ok
  base : W0.heap.size = K.base
  acc : W0.heap[bx]? = some (.cells #[.slice (some ⟨K.bA, 0, none⟩) K.n K.n] 46 (0, 0))
  wr : W0.heap[bWrb]? = some (.cells #[.slice (some ⟨K.bW, 0, none⟩) K.items K.items] 47 (0, 0))
  rd : W0.heap[bRdb]? = some (.cells #[.slice (some ⟨K.bR, 0, none⟩) K.N K.N] 47 (0, 0))
  tree : W0.heap[bTree]? = some (.cells #[.int .i64 z] 44 (0, 0))
  ne : bM ≠ K.bA ∧ bM ≠ K.bW ∧ bM ≠ K.bR ∧ bM < K.base
  far : ∀ k, k = bx ∨ k = bWrb ∨ k = bRdb ∨ k = bTree → k ∉ [K.bA, K.bW, K.bR, bM]

/-- What turns. -/
structure OpAt (K : KO) (bM : Nat) (W0 : World) (L : Lists) (F : List Nat) (v : Nat → Nat → Value) (nM : Nat) (D : DataW Unit) (w : World) : Prop where
  mem : OpMem K L F v w
  map : w.ownsMap Try.prog 62 (plainElem Try.prog 3) bM nM D
  turned : Turned [K.bA, K.bW, K.bR, bM] W0 w

theorem ownsMap_turned {w w' : World} {S : List Nat} {bM nM : Nat} {D : DataW Unit} (h : w.ownsMap Try.prog 62 (plainElem Try.prog 3) bM nM D) (ht : Turned S w w') (hne : bM ∉ S) : w'.ownsMap Try.prog 62 (plainElem Try.prog 3) bM nM D := by
  obtain ⟨es, clock, h1, h2⟩ := h
  exact ⟨es, clock, ht.keep h1 hne, h2⟩

section
variable {K : KO} {bx bWrb bRdb bTree bM z : Nat} {W0 : World} {L : Lists} {F : List Nat} {v : Nat → Nat → Value} {nM : Nat} {D : DataW Unit} {w w' : World}

theorem OpAt.keep (h : OpAt K bM W0 L F v nM D w) {k : Nat} {x : Obj} (hk : W0.heap[k]? = some x) (hne : k ∉ [K.bA, K.bW, K.bR, bM]) : w.heap[k]? = some x := h.turned.keep hk hne

/-- Nothing of it has turned. -/
theorem OpAt.kept (h : OpAt K bM W0 L F v nM D w) (ht : Turned [] w w') : OpAt K bM W0 L F v nM D w' := ⟨h.mem.kept ht, ownsMap_turned h.map ht (by simp), h.turned.trans ht (by simp)⟩

theorem OpAt.fresh (h : OpAt K bM W0 L F v nM D w) (ht : Turned [] w w') : OpAt K bM W0 L (w.heap.size :: F) v nM D w' := ⟨h.mem.fresh ht, ownsMap_turned h.map ht (by simp), h.turned.trans ht (by simp)⟩

theorem OpAt.less (h : OpAt K bM W0 L F v nM D w) {F' : List Nat} (hF : ∀ k ∈ F', k ∈ F) : OpAt K bM W0 L F' v nM D w := ⟨⟨h.mem.rows, fun b o hd k hk hm => h.mem.off b o hd k hk (hF k hm)⟩, h.map, h.turned⟩

/-- Behind a push. -/
theorem OpAt.pushed (C : OpC K bx bWrb bRdb bTree bM z W0) (h : OpAt K bM W0 L F v nM D w) {L' : Lists} {b o : Nat} {xs : List Value} (hd : K.dom b o) (hl : K.len L' = upd (K.len L) b o (K.len L b o + 1)) (hv : K.val L' = upd (K.val L) b o (K.val L b o ++ xs)) (hF : ∀ k ∈ F, k < w.heap.size)
    (hp : PutPost K.base K.dom K.ty K.sz v (K.len L) (K.val L) b o xs w w') : ∃ v', OpAt K bM W0 L' F v' nM D w' ∧ ∀ (k : Nat) (x : Obj), k ∈ F → k ≠ b → w.heap[k]? = some x → w'.heap[k]? = some x := by
  obtain ⟨v', h1, h2⟩ := h.mem.pushed hd hl hv hF hp
  have hb : b = K.bA ∨ b = K.bW ∨ b = K.bR := by rcases hd with h | h | h <;> simp [h.1]
  obtain ⟨n1, n2, n3, n4⟩ := C.ne
  refine ⟨v', ⟨h1, ownsMap_turned h.map h2 ?_, h.turned.trans h2 ?_⟩, fun k x hk hne hx => h.mem.turned_keep hd h2 hx hne (.inl hk)⟩
  · simp only [List.mem_cons, not_or, Option.mem_toList]
    refine ⟨by omega, fun e => ?_⟩
    have := ((h.mem.rows.own b o hd).lt bM e).1
    omega
  · intro x hx
    rcases List.mem_cons.1 hx with e | e
    · subst e
      left
      simp only [List.mem_cons]
      omega
    · right
      rw [Option.mem_toList] at e
      have := ((h.mem.rows.own b o hd).lt x e).1
      have := C.base
      omega

/-- A cell of a row set anew. -/
theorem OpAt.setIn (C : OpC K bx bWrb bRdb bTree bM z W0) (h : OpAt K bM W0 L F v nM D w) {L' : Lists} {b o j g : Nat} {x : Value} (hd : K.dom b o) (hl : K.len L' = K.len L) (hv : K.val L' = upd (K.val L) b o ((K.val L b o).set j x)) (hg : (v b o).ownBlock = some g) :
    OpAt K bM W0 L' F v nM D (w.setCell ⟨g, j, none⟩ x) := by
  obtain ⟨h1, h2⟩ := h.mem.rows.setIn (j := j) (x := x) hd hg
  obtain ⟨n1, n2, n3, n4⟩ := C.ne
  have hlt := ((h.mem.rows.own b o hd).lt g hg).1
  have := C.base
  refine ⟨⟨by rw [hl, hv]; exact h1, h.mem.off⟩, ownsMap_turned h.map h2 (by simp; omega), h.turned.trans h2 ?_⟩
  intro y hy
  simp at hy
  omega

/-- The map turned. -/
theorem OpAt.mapped (C : OpC K bx bWrb bRdb bTree bM z W0) (h : OpAt K bM W0 L F v nM D w) {nM' : Nat} {D' : DataW Unit} (hm : w'.ownsMap Try.prog 62 (plainElem Try.prog 3) bM nM' D') (hg : w.grownBy w' (some bM)) : OpAt K bM W0 L F v nM' D' w' := by
  have ht : Turned [bM] w w' := Turned.of_grown hg _ (fun k hk => by cases hk; simp)
  obtain ⟨n1, n2, n3, n4⟩ := C.ne
  refine ⟨⟨h.mem.rows.turned ht (fun b o hd => ?_), h.mem.off⟩, hm, h.turned.trans ht (by simp)⟩
  have hb : b = K.bA ∨ b = K.bW ∨ b = K.bR := by rcases hd with h | h | h <;> simp [h.1]
  refine ⟨by simp; omega, fun k hk => ?_⟩
  have := ((h.mem.rows.own b o hd).lt k hk).1
  simp
  omega

end

theorem flat_set (l : List (Int × Int × Int)) (k : Nat) (e : Int × Int × Int) (q : Int) (h : l[k]? = some e) : (l.flatMap encT).set (k * 3 + 2) (.int .i64 q) = (l.set k (e.1, e.2.1, q)).flatMap encT := by
  induction l generalizing k with
  | nil => simp at h
  | cons a l ih =>
    cases k with
    | zero =>
      simp at h
      subst h
      simp [encT]
    | succ k =>
      have h' : l[k]? = some e := by simpa using h
      rw [show (k + 1) * 3 + 2 = (k * 3 + 2) + 3 by omega]
      simp only [List.flatMap_cons, List.set_cons_succ]
      rw [← ih k h']
      simp [encT]

end Go.Proofs.Qxb6612201a
