/-
  PLAIN: WHAT shortestCycle's FIRST PART LISTS OF A HISTORY, and what the lists say of its graph.
-/
import Derived.Test.Qxb6612201aHist
import Derived.Test.Qxb6612201aCfP
namespace Go.Proofs.Qxb6612201a
set_option linter.unusedVariables false
set_option linter.unusedSectionVars false

def Hist.WrAt (h : Hist) (i : Nat) : Prop := iAt h.ks i = 1 ∧ iAt h.ocs (iAt h.ts i).toNat = 1
def Hist.RdAt (h : Hist) (i : Nat) : Prop := iAt h.ks i = 0 ∧ iAt h.ocs (iAt h.ts i).toNat = 1

/-- The lists: by transaction its writes (item, first, last) and reads (lo, hi, place); by item its writes (place, transaction); by node the reads kept there. -/
structure Lists where
  wr : Nat → List (Int × Int × Int)
  rd : Nat → List (Int × Int × Int)
  ws : Nat → List (Int × Int)
  rs : Nat → List (Int × Int)

/-- The operations are well-formed. -/
structure Sane (h : Hist) (m n items : Nat) : Prop where
  tx : ∀ i, i < m → 0 ≤ iAt h.ts i ∧ iAt h.ts i < n
  rd : ∀ i, i < m → iAt h.ks i = 0 → 0 ≤ iAt h.los i ∧ iAt h.los i < iAt h.his i ∧ iAt h.his i ≤ items
  wr : ∀ i, i < m → iAt h.ks i = 1 → 0 ≤ iAt h.los i ∧ iAt h.los i < items ∧ iAt h.his i = iAt h.los i + 1

structure Told (h : Hist) (H p : Nat) (L : Lists) : Prop where
  wrM : ∀ (t : Nat) (e : Int × Int × Int), e ∈ L.wr t → ∃ i j : Nat, e.2.1 = i ∧ e.2.2 = j ∧ i < p ∧ j < p ∧ h.WrAt i ∧ h.WrAt j ∧ iAt h.ts i = t ∧ iAt h.ts j = t ∧ iAt h.los i = e.1 ∧ iAt h.los j = e.1 ∧ ∀ k, k < p → h.WrAt k → iAt h.ts k = t → iAt h.los k = e.1 → i ≤ k ∧ k ≤ j
  wrA : ∀ k, k < p → h.WrAt k → ∃ e ∈ L.wr (iAt h.ts k).toNat, e.1 = iAt h.los k
  wrD : ∀ t, (L.wr t).Pairwise (fun a b => a.1 ≠ b.1)
  rdM : ∀ (t : Nat) (r : Int × Int × Int), r ∈ L.rd t ↔ ∃ i : Nat, r = (iAt h.los i, iAt h.his i, (i : Int)) ∧ i < p ∧ h.RdAt i ∧ iAt h.ts i = t
  wsM : ∀ (x : Nat) (y : Int × Int), y ∈ L.ws x ↔ ∃ i : Nat, y = ((i : Int), iAt h.ts i) ∧ i < p ∧ h.WrAt i ∧ iAt h.los i = x
  wsS : ∀ x, (L.ws x).Pairwise (fun a b => a.1 ≤ b.1)
  rsM : ∀ (q : Nat) (y : Int × Int), y ∈ L.rs q ↔ ∃ i : Nat, y = ((i : Int), iAt h.ts i) ∧ i < p ∧ h.RdAt i ∧ q ∈ cover H (iAt h.los i).toNat (iAt h.his i).toNat
  rsS : ∀ q, (L.rs q).Pairwise (fun a b => a.1 ≤ b.1)
  wrL : ∀ t, (L.wr t).length ≤ p
  rdL : ∀ t, (L.rd t).length ≤ p
  wsL : ∀ x, (L.ws x).length ≤ p
  rsL : ∀ q, (L.rs q).length ≤ 100 * p

theorem Hist.WrAt.acc {h : Hist} {i : Nat} (hw : h.WrAt i) : h.Acc i := ⟨.inr hw.1, hw.2⟩
theorem Hist.RdAt.acc {h : Hist} {i : Nat} (hw : h.RdAt i) : h.Acc i := ⟨.inl hw.1, hw.2⟩

section
variable {h : Hist} {H m n items : Nat} {L : Lists}

/-- An edge from two writes of an item. -/
theorem edge_ww (T : Told h H m L) (S : Sane h m n items) {i j u v : Nat} (hij : i < j) (hj : j < m) (wi : h.WrAt i) (wj : h.WrAt j) (tu : iAt h.ts i = u) (tv : iAt h.ts j = v) (hl : iAt h.los i = iAt h.los j) (hne : u ≠ v) : h.Edge m u v := by
  have si := S.wr i (by omega) wi.1
  have sj := S.wr j hj wj.1
  exact ⟨i, j, hij, hj, tu, tv, wi.acc, wj.acc, by omega, .inl wi.1, by omega⟩

theorem edge_rw (T : Told h H m L) (S : Sane h m n items) {i j u v : Nat} (hij : i < j) (hj : j < m) (ri : h.RdAt i) (wj : h.WrAt j) (tu : iAt h.ts i = u) (tv : iAt h.ts j = v) (h1 : iAt h.los i ≤ iAt h.los j) (h2 : iAt h.los j < iAt h.his i) (hne : u ≠ v) : h.Edge m u v := by
  have sj := S.wr j hj wj.1
  exact ⟨i, j, hij, hj, tu, tv, ri.acc, wj.acc, by omega, .inr wj.1, by omega⟩

theorem edge_wr (T : Told h H m L) (S : Sane h m n items) {i j u v : Nat} (hij : i < j) (hj : j < m) (wi : h.WrAt i) (rj : h.RdAt j) (tu : iAt h.ts i = u) (tv : iAt h.ts j = v) (h1 : iAt h.los j ≤ iAt h.los i) (h2 : iAt h.los i < iAt h.his j) (hne : u ≠ v) : h.Edge m u v := by
  have si := S.wr i (by omega) wi.1
  exact ⟨i, j, hij, hj, tu, tv, wi.acc, rj.acc, by omega, .inl wi.1, by omega⟩

/-- What an edge comes of. -/
theorem edge_cases (T : Told h H m L) (S : Sane h m n items) {u v : Nat} (he : h.Edge m u v) :
    (∃ i j, i < j ∧ j < m ∧ h.WrAt i ∧ h.WrAt j ∧ iAt h.ts i = u ∧ iAt h.ts j = v ∧ iAt h.los i = iAt h.los j) ∨
    (∃ i j, i < j ∧ j < m ∧ h.RdAt i ∧ h.WrAt j ∧ iAt h.ts i = u ∧ iAt h.ts j = v ∧ iAt h.los i ≤ iAt h.los j ∧ iAt h.los j < iAt h.his i) ∨
    (∃ i j, i < j ∧ j < m ∧ h.WrAt i ∧ h.RdAt j ∧ iAt h.ts i = u ∧ iAt h.ts j = v ∧ iAt h.los j ≤ iAt h.los i ∧ iAt h.los i < iAt h.his j) := by
  obtain ⟨i, j, hij, hj, tu, tv, ai, aj, hne, hw, hr⟩ := he
  rcases ai.1 with ki | ki
  · rcases aj.1 with kj | kj
    · omega
    · have sj := S.wr j hj kj
      exact .inr (.inl ⟨i, j, hij, hj, ⟨ki, ai.2⟩, ⟨kj, aj.2⟩, tu, tv, by omega, by omega⟩)
  · have si := S.wr i (by omega) ki
    rcases aj.1 with kj | kj
    · exact .inr (.inr ⟨i, j, hij, hj, ⟨ki, ai.2⟩, ⟨kj, aj.2⟩, tu, tv, by omega, by omega⟩)
    · have sj := S.wr j hj kj
      exact .inl ⟨i, j, hij, hj, ⟨ki, ai.2⟩, ⟨kj, aj.2⟩, tu, tv, by omega⟩

/-- The writers of an item ahead of u's last write of it. -/
theorem preds_ww (T : Told h H m L) (S : Sane h m n items) {u x : Nat} {e : Int × Int × Int} (he : e ∈ L.wr u) (hx : e.1 = x) {y : Int × Int} (hy : y ∈ L.ws x) (hlt : y.1 < e.2.2) : h.Edge m y.2.toNat u ∨ y.2.toNat = u := by
  obtain ⟨i, j, e1, e2, hi, hj, wi, wj, ti, tj, li, lj, _⟩ := T.wrM u e he
  obtain ⟨k, rfl, hk, wk, lk⟩ := (T.wsM x y).1 hy
  have sk := S.tx k hk
  by_cases e : (iAt h.ts k).toNat = u
  · exact .inr e
  · exact .inl (edge_ww T S (by simp at hlt; omega) hj wk wj (by omega) tj (by omega) e)

/-- The readers of an item ahead of u's last write of it. -/
theorem preds_rw (T : Told h H m L) (S : Sane h m n items) (hz : items ≤ 2 ^ H) {u x q : Nat} {e : Int × Int × Int} (he : e ∈ L.wr u) (hx : e.1 = x) (hu : Under H q x) {y : Int × Int} (hy : y ∈ L.rs q) (hlt : y.1 < e.2.2) : h.Edge m y.2.toNat u ∨ y.2.toNat = u := by
  obtain ⟨i, j, e1, e2, hi, hj, wi, wj, ti, tj, li, lj, _⟩ := T.wrM u e he
  obtain ⟨k, rfl, hk, rk, lk⟩ := (T.rsM q y).1 hy
  have sk := S.tx k hk
  have rr := S.rd k hk rk.1
  have wj' := S.wr j hj wj.1
  have hc := (cover_under (H := H) (lo := (iAt h.los k).toNat) (hi := (iAt h.his k).toNat) (i := x) (by omega) (by omega)).1 ⟨q, lk, hu⟩
  by_cases e : (iAt h.ts k).toNat = u
  · exact .inr e
  · exact .inl (edge_rw T S (by simp at hlt; omega) hj rk wj (by omega) tj (by omega) (by omega) e)

/-- The writers of a read's items ahead of it. -/
theorem preds_wr (T : Told h H m L) (S : Sane h m n items) {u x : Nat} {r : Int × Int × Int} (hr : r ∈ L.rd u) (h1 : r.1 ≤ x) (h2 : (x : Int) < r.2.1) {y : Int × Int} (hy : y ∈ L.ws x) (hlt : y.1 < r.2.2) : h.Edge m y.2.toNat u ∨ y.2.toNat = u := by
  obtain ⟨j, rfl, hj, rj, tj⟩ := (T.rdM u r).1 hr
  obtain ⟨k, rfl, hk, wk, lk⟩ := (T.wsM x y).1 hy
  have sk := S.tx k hk
  by_cases e : (iAt h.ts k).toNat = u
  · exact .inr e
  · exact .inl (edge_wr T S (by simp at hlt; omega) hj wk rj (by omega) tj (by simp at h1; omega) (by simp at h2; omega) e)

/-- All that come ahead of u are among them. -/
theorem preds_all (T : Told h H m L) (S : Sane h m n items) (hz : items ≤ 2 ^ H) {u v : Nat} (he : h.Edge m v u) :
    (∃ e ∈ L.wr u, ∃ x : Nat, e.1 = x ∧ x < items ∧ ((∃ y ∈ L.ws x, y.1 < e.2.2 ∧ y.2.toNat = v) ∨ ∃ q, 1 ≤ q ∧ Under H q x ∧ ∃ y ∈ L.rs q, y.1 < e.2.2 ∧ y.2.toNat = v)) ∨
    (∃ r ∈ L.rd u, ∃ x : Nat, r.1 ≤ x ∧ (x : Int) < r.2.1 ∧ ∃ y ∈ L.ws x, y.1 < r.2.2 ∧ y.2.toNat = v) := by
  rcases edge_cases T S he with ⟨i, j, hij, hj, wi, wj, ti, tj, hl⟩ | ⟨i, j, hij, hj, ri, wj, ti, tj, h1, h2⟩ | ⟨i, j, hij, hj, wi, rj, ti, tj, h1, h2⟩
  · obtain ⟨e, he, hex⟩ := T.wrA j hj wj
    rw [tj, Int.toNat_natCast] at he
    obtain ⟨i', j', e1, e2, hi', hj', _, _, _, _, _, _, hb⟩ := T.wrM u e he
    have hlast := (hb j hj wj tj (by omega)).2
    have sj := S.wr j hj wj.1
    refine .inl ⟨e, he, (iAt h.los j).toNat, by omega, by omega, .inl ⟨((i : Int), iAt h.ts i), (T.wsM _ _).2 ⟨i, rfl, by omega, wi, by omega⟩, by show (i : Int) < _; omega, by simp [ti]⟩⟩
  · obtain ⟨e, he, hex⟩ := T.wrA j hj wj
    rw [tj, Int.toNat_natCast] at he
    obtain ⟨i', j', e1, e2, hi', hj', _, _, _, _, _, _, hb⟩ := T.wrM u e he
    have hlast := (hb j hj wj tj (by omega)).2
    have sj := S.wr j hj wj.1
    have si := S.rd i (by omega) ri.1
    obtain ⟨q, hq, hun⟩ := (cover_under (H := H) (lo := (iAt h.los i).toNat) (hi := (iAt h.his i).toNat) (i := (iAt h.los j).toNat) (by omega) (by omega)).2 ⟨by omega, by omega⟩
    have hq1 := cover_range (H := H) (lo := (iAt h.los i).toNat) (hi := (iAt h.his i).toNat) (by omega) q hq
    exact .inl ⟨e, he, (iAt h.los j).toNat, by omega, by omega, .inr ⟨q, hq1.1, hun, ((i : Int), iAt h.ts i), (T.rsM _ _).2 ⟨i, rfl, by omega, ri, hq⟩, by show (i : Int) < _; omega, by simp [ti]⟩⟩
  · have si := S.wr i (by omega) wi.1
    exact .inr ⟨_, (T.rdM u _).2 ⟨j, rfl, hj, rj, tj⟩, (iAt h.los i).toNat, by show iAt h.los j ≤ _; omega, by show _ < iAt h.his j; omega, ((i : Int), iAt h.ts i), (T.wsM _ _).2 ⟨i, rfl, by omega, wi, by omega⟩, by show (i : Int) < (j : Int); omega, by simp [ti]⟩

/-- 'precedes' tells the edges. -/
theorem prec_edge (T : Told h H m L) (S : Sane h m n items) {u v : Nat} (hne : u ≠ v) : Prec (L.wr u) (L.rd u) (L.wr v) (L.rd v) ↔ h.Edge m u v := by
  constructor
  · rintro (⟨w, hw, ⟨t, ht, h1, h2⟩ | ⟨r, hr, h1, h2, h3⟩⟩ | ⟨r, hr, t, ht, h1, h2, h3⟩)
    · obtain ⟨i, j, e1, e2, hi, hj, wi, wj, ti, tj, li, lj, _⟩ := T.wrM v w hw
      obtain ⟨i', j', e1', e2', hi', hj', wi', wj', ti', tj', li', lj', _⟩ := T.wrM u t ht
      exact edge_ww T S (by omega) hj wi' wj ti' tj (by omega) hne
    · obtain ⟨i, j, e1, e2, hi, hj, wi, wj, ti, tj, li, lj, _⟩ := T.wrM v w hw
      obtain ⟨k, rfl, hk, rk, tk⟩ := (T.rdM u r).1 hr
      simp at h1 h2 h3
      exact edge_rw T S (by omega) hj rk wj tk tj (by omega) (by omega) hne
    · obtain ⟨i', j', e1', e2', hi', hj', wi', wj', ti', tj', li', lj', _⟩ := T.wrM u t ht
      obtain ⟨k, rfl, hk, rk, tk⟩ := (T.rdM v r).1 hr
      simp at h1 h2 h3
      exact edge_wr T S (by omega) hk wi' rk ti' tk (by omega) (by omega) hne
  · intro he
    rcases edge_cases T S he with ⟨i, j, hij, hj, wi, wj, ti, tj, hl⟩ | ⟨i, j, hij, hj, ri, wj, ti, tj, h1, h2⟩ | ⟨i, j, hij, hj, wi, rj, ti, tj, h1, h2⟩
    · obtain ⟨w, hw, hwx⟩ := T.wrA j hj wj
      rw [tj, Int.toNat_natCast] at hw
      obtain ⟨a1, b1, e1, e2, _, _, _, _, _, _, _, _, hb⟩ := T.wrM v w hw
      obtain ⟨t, ht, htx⟩ := T.wrA i (by omega) wi
      rw [ti, Int.toNat_natCast] at ht
      obtain ⟨a2, b2, e1', e2', _, _, _, _, _, _, _, _, hb'⟩ := T.wrM u t ht
      have g1 := (hb j hj wj tj (by omega)).2
      have g2 := (hb' i (by omega) wi ti (by omega)).1
      exact .inl ⟨w, hw, .inl ⟨t, ht, by omega, by omega⟩⟩
    · obtain ⟨w, hw, hwx⟩ := T.wrA j hj wj
      rw [tj, Int.toNat_natCast] at hw
      obtain ⟨a1, b1, e1, e2, _, _, _, _, _, _, _, _, hb⟩ := T.wrM v w hw
      have g1 := (hb j hj wj tj (by omega)).2
      exact .inl ⟨w, hw, .inr ⟨_, (T.rdM u _).2 ⟨i, rfl, by omega, ri, ti⟩, by show iAt h.los i ≤ _; omega, by show _ < iAt h.his i; omega, by show (i : Int) < _; omega⟩⟩
    · obtain ⟨t, ht, htx⟩ := T.wrA i (by omega) wi
      rw [ti, Int.toNat_natCast] at ht
      obtain ⟨a2, b2, e1', e2', _, _, _, _, _, _, _, _, hb'⟩ := T.wrM u t ht
      have g2 := (hb' i (by omega) wi ti (by omega)).1
      exact .inr ⟨_, (T.rdM v _).2 ⟨j, rfl, hj, rj, tj⟩, t, ht, by show iAt h.los j ≤ _; omega, by show _ < iAt h.his j; omega, by show _ < (j : Int); omega⟩
end

end Go.Proofs.Qxb6612201a
