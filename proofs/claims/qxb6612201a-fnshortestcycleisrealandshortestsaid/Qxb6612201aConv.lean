/-
  THE TABLES OF shortestCycle's FIRST PART, AS THE SEARCH READS THEM.
-/
import Derived.Test.Qxb6612201aOpsW
import Derived.Test.Qxb6612201aLowS
import Derived.Test.Qxb6612201aPh2
import Derived.Test.Qxb6612201aBelowW
namespace Go.Proofs.Qxb6612201a
open Go.RowKit Go.Shelf
set_option linter.unusedVariables false
set_option linter.unusedSimpArgs false

theorem flat3 (l : List (Int × Int × Int)) (k : Nat) (e : Int × Int × Int) (h : l[k]? = some e) : (l.flatMap encT)[k * 3]? = some (.int .i64 e.1) ∧ (l.flatMap encT)[k * 3 + 1]? = some (.int .i64 e.2.1) ∧ (l.flatMap encT)[k * 3 + 2]? = some (.int .i64 e.2.2) := by
  induction l generalizing k with
  | nil => simp at h
  | cons a l ih =>
    cases k with
    | zero =>
      simp at h
      subst h
      simp [encT]
    | succ k =>
      have h' : l[k]? = some e := by simpa using h
      obtain ⟨h1, h2, h3⟩ := ih k h'
      have key : ∀ j u, (l.flatMap encT)[j]? = u → ((a :: l).flatMap encT)[j + 3]? = u := fun j u hj => by
        rw [List.flatMap_cons, List.getElem?_append_right (by simp [encT]), ← hj]
        simp [encT]
      exact ⟨by rw [show (k + 1) * 3 = k * 3 + 3 by omega]; exact key _ _ h1, by rw [show (k + 1) * 3 + 1 = k * 3 + 1 + 3 by omega]; exact key _ _ h2, by rw [show (k + 1) * 3 + 2 = k * 3 + 2 + 3 by omega]; exact key _ _ h3⟩

theorem flat2 (l : List (Int × Int)) (k : Nat) (e : Int × Int) (h : l[k]? = some e) : (l.flatMap enc2)[k * 2]? = some (.int .i64 e.1) ∧ (l.flatMap enc2)[k * 2 + 1]? = some (.int .i64 e.2) := by
  induction l generalizing k with
  | nil => simp at h
  | cons a l ih =>
    cases k with
    | zero =>
      simp at h
      subst h
      simp [enc2]
    | succ k =>
      have h' : l[k]? = some e := by simpa using h
      obtain ⟨h1, h2⟩ := ih k h'
      have key : ∀ j u, (l.flatMap enc2)[j]? = u → ((a :: l).flatMap enc2)[j + 2]? = u := fun j u hj => by
        rw [List.flatMap_cons, List.getElem?_append_right (by simp [enc2]), ← hj]
        simp [enc2]
      exact ⟨by rw [show (k + 1) * 2 = k * 2 + 2 by omega]; exact key _ _ h1, by rw [show (k + 1) * 2 + 1 = k * 2 + 1 + 2 by omega]; exact key _ _ h2⟩

theorem own3 {w : World} {base e : Nat} {v : Value} {l : List (Int × Int × Int)} (h : w.ownsRow base e 3 v l.length (l.flatMap encT)) (hl : l.length ≤ 1000000) (h0 : 0 < w.heap.size) : ∃ a cap g, v = .slice a l.length cap ∧ T3 w.heap.size w a cap g l := by
  rcases h.2 with ⟨h1, h2⟩ | ⟨g, cap, cur, hv, hb, hg, hr⟩
  · have hn : l = [] := List.length_eq_zero_iff.1 h2
    subst hn
    exact ⟨none, 0, 0, h1, ⟨(fun h => by cases h), .inr ⟨rfl, rfl, rfl⟩, h0, hl, fun j x hx => by simp at hx⟩⟩
  · refine ⟨some ⟨g, 0, none⟩, cap, g, hv, ⟨fun _ => rfl, .inl rfl, (h.lt g (by rw [hv]; rfl)).2, hl, fun j x hx => ?_⟩⟩
    have hj := (List.getElem?_eq_some_iff.1 hx).1
    obtain ⟨h1, h2, h3⟩ := flat3 l j x hx
    rw [hv] at h
    exact ⟨(h.cellAt _ (by omega)).trans h1, (h.cellAt _ (by omega)).trans h2, (h.cellAt _ (by omega)).trans h3⟩

theorem own2 {w : World} {base e : Nat} {v : Value} {l : List (Int × Int)} (h : w.ownsRow base e 2 v l.length (l.flatMap enc2)) (hl : l.length ≤ 1000000) (h0 : 0 < w.heap.size) : PRow w.heap.size w v l := by
  rcases h.2 with ⟨h1, h2⟩ | ⟨g, cap, cur, hv, hb, hg, hr⟩
  · have hn : l = [] := List.length_eq_zero_iff.1 h2
    subst hn
    exact ⟨none, 0, 0, h1, (fun h => by cases h), h0, hl, fun j x hx => by simp at hx⟩
  · refine ⟨some ⟨g, 0, none⟩, cap, g, hv, fun _ => rfl, (h.lt g (by rw [hv]; rfl)).2, hl, fun j x hx => ?_⟩
    have hj := (List.getElem?_eq_some_iff.1 hx).1
    obtain ⟨h1, h2⟩ := flat2 l j x hx
    rw [hv] at h
    exact ⟨(h.cellAt _ (by omega)).trans h1, (h.cellAt _ (by omega)).trans h2⟩

section
variable {K : KO} {bx bWrb bRdb bTree bM z : Nat} {W0 : World} {L : Lists} {v : Nat → Nat → Value} {nM : Nat} {D : DataW Unit} {w : World} {h : Hist} {H m : Nat}

theorem tab_w (C : OpC K bx bWrb bRdb bTree bM z W0) (A : OpAt K bM W0 L [] v nM D w) (T : Told h H m L) (hm : m ≤ 1024) : Tab w.heap.size w bWrb K.bW K.items L.ws := by
  have hs := A.turned.size
  have hb := C.base
  have l1 := (Array.getElem?_eq_some_iff.1 C.wr).1
  obtain ⟨k1, k2, k3, k4, k5, k6⟩ := C.ok
  refine ⟨A.keep C.wr (C.far _ (.inr (.inl rfl))), ⟨by omega, by omega⟩, fun q hq => ?_⟩
  have dm : K.dom K.bW q := .inr (.inl ⟨rfl, hq⟩)
  have ho := A.mem.rows.own _ _ dm
  have h1 := K.at_ws L q C.ok
  rw [h1.1, h1.2.1, h1.2.2.2] at ho
  exact ⟨_, A.mem.rows.cell _ _ dm, own2 ho (by have := T.wsL q; omega) (by omega)⟩

theorem tab_r (C : OpC K bx bWrb bRdb bTree bM z W0) (A : OpAt K bM W0 L [] v nM D w) (T : Told h H m L) (hm : m ≤ 1024) : Tab w.heap.size w bRdb K.bR K.N L.rs := by
  have hs := A.turned.size
  have hb := C.base
  have l1 := (Array.getElem?_eq_some_iff.1 C.rd).1
  obtain ⟨k1, k2, k3, k4, k5, k6⟩ := C.ok
  refine ⟨A.keep C.rd (C.far _ (.inr (.inr (.inl rfl)))), ⟨by omega, by omega⟩, fun q hq => ?_⟩
  have dm : K.dom K.bR q := .inr (.inr ⟨rfl, hq⟩)
  have ho := A.mem.rows.own _ _ dm
  have h1 := K.at_rs L q C.ok
  rw [h1.1, h1.2.1, h1.2.2.2] at ho
  exact ⟨_, A.mem.rows.cell _ _ dm, own2 ho (by have := T.rsL q; omega) (by omega)⟩

theorem tab_acc (C : OpC K bx bWrb bRdb bTree bM z W0) (A : OpAt K bM W0 L [] v nM D w) (T : Told h H m L) (S : Sane h m K.n K.items) (hm : m ≤ 1024) (hit : K.items ≤ 65536) : AccTab w.heap.size w bx K.bA K.n L.wr L.rd := by
  have hs := A.turned.size
  have hb := C.base
  have l1 := (Array.getElem?_eq_some_iff.1 C.acc).1
  obtain ⟨k1, k2, k3, k4, k5, k6⟩ := C.ok
  refine ⟨A.keep C.acc (C.far _ (.inl rfl)), ⟨by omega, by omega⟩, fun q hq => ?_⟩
  have d1 : K.dom K.bA (q * 2) := .inl ⟨rfl, by omega⟩
  have d2 : K.dom K.bA (q * 2 + 1) := .inl ⟨rfl, by omega⟩
  have o1 := A.mem.rows.own _ _ d1
  have o2 := A.mem.rows.own _ _ d2
  have h1 := K.at_wr L q
  have h2 := K.at_rd L q
  rw [h1.1, h1.2.1, h1.2.2.2] at o1
  rw [h2.1, h2.2.1, h2.2.2.2] at o2
  obtain ⟨a1, c1, g1, e1, t1⟩ := own3 o1 (by have := T.wrL q; omega) (by omega)
  obtain ⟨a2, c2, g2, e2, t2⟩ := own3 o2 (by have := T.rdL q; omega) (by omega)
  have x1 := A.mem.rows.cell _ _ d1
  have x2 := A.mem.rows.cell _ _ d2
  rw [e1] at x1
  rw [e2] at x2
  refine ⟨⟨a1, c1, g1, _, a2, c2, g2, _⟩, x1, x2, ⟨rfl, rfl, t1, t2, fun t ht => ?_, fun t ht => ?_⟩⟩
  · obtain ⟨i, j, f1, f2, hi, hj, wi, wj, ti, tj, li, lj, _⟩ := T.wrM q t ht
    have := S.wr i hi wi.1
    omega
  · obtain ⟨i, rfl, hi, ri, ti⟩ := (T.rdM q t).1 ht
    have := S.rd i hi ri.1
    simp only
    omega
end

theorem sane_of {h : Hist} {m n items : Nat} (S : ∀ i, i < m → OpOk n items (iAt h.ks i) (iAt h.ts i) (iAt h.los i) (iAt h.his i)) : Sane h m n items where
  tx i hi := ⟨(S i hi).1, (S i hi).2.1⟩
  rd i hi hk := by have := (S i hi).2.2; omega
  wr i hi hk := by have := (S i hi).2.2; omega

theorem cover_len {z H : Nat} (hz : z = 2 ^ H) (hl : z ≤ 200000) (lo hi : Nat) : (cover H lo hi).length ≤ 100 := by
  have h1 := coverL_len (H + 1) (lo + 2 ^ H) (hi + 2 ^ H)
  have h2 : H < 18 := by
    refine Nat.lt_of_not_le fun h => ?_
    have h3 : 2 ^ 18 ≤ 2 ^ H := Nat.pow_le_pow_right (by decide) h
    have : (2 : Nat) ^ 18 = 262144 := by decide
    omega
  unfold cover
  omega

end Go.Proofs.Qxb6612201a
