/-
  THE MEMORY OF shortestCycle's SEARCH, and what each of its steps leaves of it.
-/
import Derived.Test.Qxb6612201aReachW
import Derived.Test.Qxb6612201aTree
namespace Go.Proofs.Qxb6612201a
open Go.RowKit
set_option linter.unusedVariables false
set_option linter.unusedSimpArgs false

/-- The blocks and sizes that do not turn while the search runs. -/
structure Kon where
  (n z N items B bDist bD q0 bQ bReach bTWb bTW bP g bF bTRb bTR : Nat)

def Kon.Ok (K : Kon) : Prop := K.B ≤ K.bD ∧ K.bD < K.bDist ∧ K.bDist < K.q0 ∧ K.q0 < K.bQ ∧ K.bQ < K.bReach ∧ K.bReach < K.bTW ∧ K.bTW < K.bTWb ∧ K.bTWb < K.g ∧ K.g < K.bP ∧ K.bP < K.bF ∧ K.bF < K.bTR ∧ K.bTR < K.bTRb

/-- What turns. -/
structure St where
  ds : List Int
  q : List Nat
  qb : Nat
  qo : Nat
  qc : Nat
  tw : List Int
  arr : List Int
  fv : Value
  fl : List Int
  tr : List Int

structure Mem (K : Kon) (M : St) (w : World) : Prop where
  q : QMem K.bDist K.bD K.bQ K.n M.ds M.q M.qb M.qo M.qc w
  reach : w.heap[K.bReach]? = some (.cells #[.func (.func 18) #[] #[.pointer (some ⟨K.bDist, 0, none⟩), .pointer (some ⟨K.bQ, 0, none⟩)]] 65 (0, 0))
  twb : w.heap[K.bTWb]? = some (.cells #[.slice (some ⟨K.bTW, 0, none⟩) K.items K.items] 22 (0, 0))
  tw : w.heap[K.bTW]? = some (.cells (M.tw.map (Value.int .i64)).toArray 3 (0, 0))
  twl : M.tw.length = K.items
  pb : w.heap[K.bP]? = some (.cells #[.int .i64 K.z, .slice (some ⟨K.g, 0, none⟩) K.N K.N] 67 (0, 0))
  p : w.heap[K.g]? = some (.cells (M.arr.map (Value.int .i64)).toArray 3 (0, 0))
  pl : M.arr.length = K.N
  fb : w.heap[K.bF]? = some (.cells #[M.fv] 22 (0, 0))
  fo : w.ownsRow K.B 3 1 M.fv M.fl.length (M.fl.map (Value.int .i64))
  trb : w.heap[K.bTRb]? = some (.cells #[.slice (some ⟨K.bTR, 0, none⟩) K.N K.N] 22 (0, 0))
  tr : w.heap[K.bTR]? = some (.cells (M.tr.map (Value.int .i64)).toArray 3 (0, 0))
  trl : M.tr.length = K.N
  qbn : M.qb = K.q0 ∨ K.bTRb < M.qb
  fbn : ∀ k, M.fv.ownBlock = some k → K.bTRb < k ∧ k ≠ M.qb

theorem own_turned {w w' : World} {S : List Nat} {base e sz n : Nat} {v : Value} {xs : List Value} (h : w.ownsRow base e sz v n xs) (ht : Turned S w w') (hne : ∀ k, v.ownBlock = some k → k ∉ S) : w'.ownsRow base e sz v n xs := by
  refine ⟨h.1, ?_⟩
  rcases h.2 with h0 | ⟨g, cap, cur, hv, hb, hg, hr⟩
  · exact .inl h0
  · exact .inr ⟨g, cap, cur, hv, hb, ht.keep hg (hne g (by rw [hv]; rfl)), hr⟩

/-- Nothing of it has turned. -/
theorem Mem.kept {K : Kon} {M : St} {w w' : World} (h : Mem K M w) (ht : Turned [] w w') : Mem K M w' where
  q := h.q.turned ht (by simp) (by simp) (by simp) (by simp)
  reach := ht.keep h.reach (by simp)
  twb := ht.keep h.twb (by simp)
  tw := ht.keep h.tw (by simp)
  twl := h.twl
  pb := ht.keep h.pb (by simp)
  p := ht.keep h.p (by simp)
  pl := h.pl
  fb := ht.keep h.fb (by simp)
  fo := own_turned h.fo ht (by simp)
  trb := ht.keep h.trb (by simp)
  tr := ht.keep h.tr (by simp)
  trl := h.trl
  qbn := h.qbn
  fbn := h.fbn

theorem Mem.top {K : Kon} {M : St} {w : World} (h : Mem K M w) : K.bTRb < w.heap.size := (Array.getElem?_eq_some_iff.1 h.trb).1

def St.reached (M : St) (v : Nat) (d : Int) (qb qo qc : Nat) : St := { M with ds := if dAt M.ds v < 0 then M.ds.set v d else M.ds, q := if dAt M.ds v < 0 then M.q ++ [v] else M.q, qb := qb, qo := qo, qc := qc }

theorem Mem.reached {K : Kon} {M : St} {w w' : World} {v : Nat} {d : Int} (hK : K.Ok) (h : Mem K M w) (hr : ReachPost K.bDist K.bD K.bQ K.n v d M.ds M.q M.qb w w') :
    ∃ qb' qo' qc', Mem K (M.reached v d qb' qo' qc') w' ∧ (qb' = M.qb ∨ w.heap.size ≤ qb') ∧ Turned [K.bD, K.bQ, M.qb] w w' := by
  obtain ⟨qb', qo', qc', hq, hl, ht⟩ := hr
  obtain ⟨k1, k2, k3, k4, k5, k6, k7, k8, k9, k10, k11, k12⟩ := hK
  have htop := h.top
  have hqb := h.qbn
  have ne : ∀ x, x ≠ K.bD → x ≠ K.bQ → x ≠ M.qb → x ∉ [K.bD, K.bQ, M.qb] := fun x a b c => by simp [a, b, c]
  refine ⟨qb', qo', qc', ?_, hl, ht⟩
  exact
  { q := hq
    reach := ht.keep h.reach (ne _ (by omega) (by omega) (by omega))
    twb := ht.keep h.twb (ne _ (by omega) (by omega) (by omega))
    tw := ht.keep h.tw (ne _ (by omega) (by omega) (by omega))
    twl := h.twl
    pb := ht.keep h.pb (ne _ (by omega) (by omega) (by omega))
    p := ht.keep h.p (ne _ (by omega) (by omega) (by omega))
    pl := h.pl
    fb := ht.keep h.fb (ne _ (by omega) (by omega) (by omega))
    fo := own_turned h.fo ht (fun k hk => by have := h.fbn k hk; exact ne _ (by omega) (by omega) (by omega))
    trb := ht.keep h.trb (ne _ (by omega) (by omega) (by omega))
    tr := ht.keep h.tr (ne _ (by omega) (by omega) (by omega))
    trl := h.trl
    qbn := by
      show qb' = K.q0 ∨ K.bTRb < qb'
      omega
    fbn := fun k hk => by
      have h1 := h.fbn k hk
      have h2 := (h.fo.lt k hk).2
      refine ⟨h1.1, ?_⟩
      show k ≠ qb'
      omega }

theorem Mem.setTR {K : Kon} {M : St} {w : World} (hK : K.Ok) (h : Mem K M w) (j : Nat) (x : Int) :
    Mem K { M with tr := M.tr.set j x } (w.setCell ⟨K.bTR, j, none⟩ (.int .i64 x)) ∧ Turned [K.bTR] w (w.setCell ⟨K.bTR, j, none⟩ (.int .i64 x)) := by
  have ht : Turned [K.bTR] w (w.setCell ⟨K.bTR, j, none⟩ (.int .i64 x)) := Turned.of_grown (grown_set w K.bTR j _) _ (fun k hk => by cases hk; simp)
  obtain ⟨k1, k2, k3, k4, k5, k6, k7, k8, k9, k10, k11, k12⟩ := hK
  have hqb := h.qbn
  have ne : ∀ x, x ≠ K.bTR → x ∉ [K.bTR] := fun x a => by simp [a]
  exact ⟨
  { q := h.q.turned ht (ne _ (by omega)) (ne _ (by omega)) (ne _ (by omega)) (ne _ (by omega))
    reach := ht.keep h.reach (ne _ (by omega))
    twb := ht.keep h.twb (ne _ (by omega))
    tw := ht.keep h.tw (ne _ (by omega))
    twl := h.twl
    pb := ht.keep h.pb (ne _ (by omega))
    p := ht.keep h.p (ne _ (by omega))
    pl := h.pl
    fb := ht.keep h.fb (ne _ (by omega))
    fo := own_turned h.fo ht (fun k hk => by have := h.fbn k hk; exact ne _ (by omega))
    trb := ht.keep h.trb (ne _ (by omega))
    tr := by
      rw [heap_setCell_same w K.bTR j _ 3 _ h.tr]
      simp [List.map_set]
    trl := by show (M.tr.set j x).length = K.N; rw [List.length_set]; exact h.trl
    qbn := h.qbn
    fbn := h.fbn }, ht⟩

theorem Mem.setTW {K : Kon} {M : St} {w : World} (hK : K.Ok) (h : Mem K M w) (j : Nat) (x : Int) :
    Mem K { M with tw := M.tw.set j x } (w.setCell ⟨K.bTW, j, none⟩ (.int .i64 x)) ∧ Turned [K.bTW] w (w.setCell ⟨K.bTW, j, none⟩ (.int .i64 x)) := by
  have ht : Turned [K.bTW] w (w.setCell ⟨K.bTW, j, none⟩ (.int .i64 x)) := Turned.of_grown (grown_set w K.bTW j _) _ (fun k hk => by cases hk; simp)
  obtain ⟨k1, k2, k3, k4, k5, k6, k7, k8, k9, k10, k11, k12⟩ := hK
  have hqb := h.qbn
  have ne : ∀ x, x ≠ K.bTW → x ∉ [K.bTW] := fun x a => by simp [a]
  exact ⟨
  { q := h.q.turned ht (ne _ (by omega)) (ne _ (by omega)) (ne _ (by omega)) (ne _ (by omega))
    reach := ht.keep h.reach (ne _ (by omega))
    twb := ht.keep h.twb (ne _ (by omega))
    tw := by
      rw [heap_setCell_same w K.bTW j _ 3 _ h.tw]
      simp [List.map_set]
    twl := by show (M.tw.set j x).length = K.items; rw [List.length_set]; exact h.twl
    pb := ht.keep h.pb (ne _ (by omega))
    p := ht.keep h.p (ne _ (by omega))
    pl := h.pl
    fb := ht.keep h.fb (ne _ (by omega))
    fo := own_turned h.fo ht (fun k hk => by have := h.fbn k hk; exact ne _ (by omega))
    trb := ht.keep h.trb (ne _ (by omega))
    tr := ht.keep h.tr (ne _ (by omega))
    trl := h.trl
    qbn := h.qbn
    fbn := h.fbn }, ht⟩

/-- A store into the tree. -/
theorem Mem.setP {K : Kon} {M : St} {w w' : World} {arr' : List Int} (hK : K.Ok) (h : Mem K M w) (hg : w.grownBy w' (some K.g)) (hl : arr'.length = K.N) (ho : w'.ownsRow K.B 3 1 (.slice (some ⟨K.g, 0, none⟩) K.N K.N) K.N (arr'.map (Value.int .i64))) :
    Mem K { M with arr := arr' } w' ∧ Turned [K.g] w w' := by
  have ht : Turned [K.g] w w' := Turned.of_grown hg _ (fun k hk => by cases hk; simp)
  obtain ⟨k1, k2, k3, k4, k5, k6, k7, k8, k9, k10, k11, k12⟩ := hK
  have hqb := h.qbn
  have ne : ∀ x, x ≠ K.g → x ∉ [K.g] := fun x a => by simp [a]
  exact ⟨
  { q := h.q.turned ht (ne _ (by omega)) (ne _ (by omega)) (ne _ (by omega)) (ne _ (by omega))
    reach := ht.keep h.reach (ne _ (by omega))
    twb := ht.keep h.twb (ne _ (by omega))
    tw := ht.keep h.tw (ne _ (by omega))
    twl := h.twl
    pb := ht.keep h.pb (ne _ (by omega))
    p := by
      rcases ho.2 with ⟨h0, _⟩ | ⟨g, cap, cur, hv, _, hc, _, _, hs, htk⟩
      · cases h0
      · simp only [Value.slice.injEq, Option.some.injEq, Addr.mk.injEq] at hv
        obtain ⟨⟨rfl, _, _⟩, _, rfl⟩ := hv
        show w'.heap[K.g]? = some (.cells (arr'.map (Value.int .i64)).toArray 3 (0, 0))
        rw [hc, ← htk, List.take_of_length_le (by rw [Array.length_toList, hs]; omega)]
    pl := hl
    fb := ht.keep h.fb (ne _ (by omega))
    fo := own_turned h.fo ht (fun k hk => by have := h.fbn k hk; exact ne _ (by omega))
    trb := ht.keep h.trb (ne _ (by omega))
    tr := ht.keep h.tr (ne _ (by omega))
    trl := h.trl
    qbn := h.qbn
    fbn := h.fbn }, ht⟩

/-- What 'below' leaves, and the store of what it hands back. -/
theorem Mem.setF {K : Kon} {M : St} {w w' : World} {v : Value} {fl : List Int} (hK : K.Ok) (h : Mem K M w) (hg : w.grownBy w' M.fv.ownBlock) (ho : w'.ownsRow K.B 3 1 v fl.length (fl.map (Value.int .i64))) (hl : v.ownBlock = M.fv.ownBlock ∨ ∃ k, v.ownBlock = some k ∧ w.heap.size ≤ k) :
    Mem K { M with fv := v, fl := fl } (w'.setCell ⟨K.bF, 0, none⟩ v) ∧ Turned (K.bF :: M.fv.ownBlock.toList) w (w'.setCell ⟨K.bF, 0, none⟩ v) ∧ w'.heap[K.bF]? = some (.cells #[M.fv] 22 (0, 0)) := by
  have htop := h.top
  have ht1 : Turned M.fv.ownBlock.toList w w' := Turned.of_grown hg _ (fun k hk => by rw [hk]; simp)
  have ht2 : Turned [K.bF] w' (w'.setCell ⟨K.bF, 0, none⟩ v) := Turned.of_grown (grown_set w' K.bF 0 _) _ (fun k hk => by cases hk; simp)
  have ht : Turned (K.bF :: M.fv.ownBlock.toList) w (w'.setCell ⟨K.bF, 0, none⟩ v) := by
    refine Turned.trans (S := K.bF :: M.fv.ownBlock.toList) (Turned.of_grown hg _ (fun k hk => by rw [hk]; simp)) ht2 (by simp)
  have hKo := hK
  obtain ⟨k1, k2, k3, k4, k5, k6, k7, k8, k9, k10, k11, k12⟩ := hK
  have hqb := h.qbn
  have ne : ∀ x, x ≠ K.bF → (∀ k, M.fv.ownBlock = some k → x ≠ k) → x ∉ K.bF :: M.fv.ownBlock.toList := fun x a b => by
    simp only [List.mem_cons, not_or, a, not_false_iff, true_and, Option.mem_toList]
    exact fun e => b x e rfl
  have nf : ∀ x, x ≤ K.bTRb → ∀ k, M.fv.ownBlock = some k → x ≠ k := fun x hx k hk => by have := h.fbn k hk; omega
  have hbf : w'.heap[K.bF]? = some (.cells #[M.fv] 22 (0, 0)) := ht1.keep h.fb (by
    rw [Option.mem_toList]
    exact fun e => nf K.bF (by omega) K.bF e rfl)
  have hvn : ∀ k, v.ownBlock = some k → K.bTRb < k ∧ k ≠ M.qb := fun k hk => by
    rcases hl with e | ⟨j, e, hj⟩
    · exact h.fbn k (by rw [← e]; exact hk)
    · rw [e] at hk
      cases hk
      have h1 := h.q.own.lt
      omega
  exact ⟨
  { q := h.q.turned ht (ne _ (by omega) (nf _ (by omega))) (ne _ (by omega) (nf _ (by omega))) (ne _ (by omega) (nf _ (by omega))) (ne _ (by omega) (fun k hk => (h.fbn k hk).2.symm))
    reach := ht.keep h.reach (ne _ (by omega) (nf _ (by omega)))
    twb := ht.keep h.twb (ne _ (by omega) (nf _ (by omega)))
    tw := ht.keep h.tw (ne _ (by omega) (nf _ (by omega)))
    twl := h.twl
    pb := ht.keep h.pb (ne _ (by omega) (nf _ (by omega)))
    p := ht.keep h.p (ne _ (by omega) (nf _ (by omega)))
    pl := h.pl
    fb := by
      rw [heap_setCell_same w' K.bF 0 _ 22 _ hbf]
      simp
    fo := own_turned ho ht2 (fun k hk => by have := hvn k hk; simp; omega)
    trb := ht.keep h.trb (ne _ (by omega) (nf _ (by omega)))
    tr := ht.keep h.tr (ne _ (by omega) (nf _ (by omega)))
    trl := h.trl
    qbn := h.qbn
    fbn := hvn }, ht, hbf⟩

/-- 'queue = queue[1:]'. -/
theorem Mem.popped {K : Kon} {M : St} {w : World} {u : Nat} {r : List Nat} (hK : K.Ok) (h : Mem K M w) (hq : M.q = u :: r) :
    Mem K { M with q := r, qo := M.qo + 1, qc := M.qc - 1 } (w.setCell ⟨K.bQ, 0, none⟩ (.slice (some ⟨M.qb, M.qo + 1, none⟩) r.length (M.qc - 1))) ∧ Turned [K.bQ] w (w.setCell ⟨K.bQ, 0, none⟩ (.slice (some ⟨M.qb, M.qo + 1, none⟩) r.length (M.qc - 1))) := by
  have ht : Turned [K.bQ] w (w.setCell ⟨K.bQ, 0, none⟩ (.slice (some ⟨M.qb, M.qo + 1, none⟩) r.length (M.qc - 1))) := Turned.of_grown (grown_set w K.bQ 0 _) _ (fun k hk => by cases hk; simp)
  obtain ⟨k1, k2, k3, k4, k5, k6, k7, k8, k9, k10, k11, k12⟩ := hK
  have hqb := h.qbn
  have ne : ∀ x, x ≠ K.bQ → x ∉ [K.bQ] := fun x a => by simp [a]
  have hqq := h.q
  rw [hq] at hqq
  exact ⟨
  { q := ⟨ht.keep h.q.box (ne _ (by omega)), ht.keep h.q.dist (ne _ (by omega)), h.q.len, by
      rw [heap_setCell_same w K.bQ 0 _ 22 _ h.q.que]
      simp, by
      obtain ⟨cur, a1, a2⟩ := hqq.own.pop
      exact ⟨cur, ht.keep a1 (ne M.qb (by omega)), a2⟩, h.q.ne⟩
    reach := ht.keep h.reach (ne _ (by omega))
    twb := ht.keep h.twb (ne _ (by omega))
    tw := ht.keep h.tw (ne _ (by omega))
    twl := h.twl
    pb := ht.keep h.pb (ne _ (by omega))
    p := ht.keep h.p (ne _ (by omega))
    pl := h.pl
    fb := ht.keep h.fb (ne _ (by omega))
    fo := own_turned h.fo ht (fun k hk => by have := h.fbn k hk; exact ne _ (by omega))
    trb := ht.keep h.trb (ne _ (by omega))
    tr := ht.keep h.tr (ne _ (by omega))
    trl := h.trl
    qbn := h.qbn
    fbn := h.fbn }, ht⟩

/-! ### the rows of accesses that lie below -/
/-- The slice value v holds l, in a block below B. -/
def PRow (B : Nat) (w : World) (v : Value) (l : List (Int × Int)) : Prop :=
  ∃ (a : Option Addr) (cap g : Nat), v = .slice a l.length cap ∧ (0 < l.length → a = some ⟨g, 0, none⟩) ∧ g < B ∧ l.length ≤ 1000000 ∧ ∀ k x, l[k]? = some x → w.cell? ⟨g, k * 2, none⟩ = some (.int .i64 x.1) ∧ w.cell? ⟨g, k * 2 + 1, none⟩ = some (.int .i64 x.2)

/-- A table of them. -/
structure Tab (B : Nat) (w : World) (box blk N : Nat) (rows : Nat → List (Int × Int)) : Prop where
  at_ : w.heap[box]? = some (.cells #[.slice (some ⟨blk, 0, none⟩) N N] 47 (0, 0))
  lt : box < B ∧ blk < B
  row : ∀ q, q < N → ∃ v, w.cell? ⟨blk, q, none⟩ = some v ∧ PRow B w v (rows q)

theorem PRow.below {B : Nat} {w w' : World} {v : Value} {l : List (Int × Int)} (h : PRow B w v l) (hb : Below B w w') : PRow B w' v l := by
  obtain ⟨a, cap, g, h1, h2, h3, h4, h5⟩ := h
  refine ⟨a, cap, g, h1, h2, h3, h4, fun k x hx => ?_⟩
  have h6 := h5 k x hx
  exact ⟨(hb.cell (p := ⟨g, k * 2, none⟩) h3).trans h6.1, (hb.cell (p := ⟨g, k * 2 + 1, none⟩) h3).trans h6.2⟩

theorem Tab.below {B : Nat} {w w' : World} {box blk N : Nat} {rows : Nat → List (Int × Int)} (h : Tab B w box blk N rows) (hb : Below B w w') : Tab B w' box blk N rows :=
  ⟨(hb.block box h.lt.1).trans h.at_, h.lt, fun q hq => by
    obtain ⟨v, h1, h2⟩ := h.row q hq
    exact ⟨v, (hb.cell (p := ⟨blk, q, none⟩) h.lt.2).trans h1, h2.below hb⟩⟩

end Go.Proofs.Qxb6612201a
