/-
  WALK: 'writersBefore' (21).
-/
import Derived.Test.Qxb6612201aReadW
import Derived.Test.Qxb6612201aPend
import Derived.Test.Qxb6612201aBelowW
import Derived.Deep.DeepCutAuto
namespace Go.Proofs.Qxb6612201a
open Go.RowKit Go.Shelf
set_option linter.unusedVariables false
set_option linter.unusedSimpArgs false

theorem Mem.ownP {K : Kon} {M : St} {w : World} (hK : K.Ok) (h : Mem K M w) (hN : K.N ≤ maxLen) : w.ownsRow K.B 3 1 (.slice (some ⟨K.g, 0, none⟩) K.N K.N) K.N (M.arr.map (Value.int .i64)) := by
  have hl := h.pl
  unfold Kon.Ok at hK
  exact ⟨by simp [hl], .inr ⟨K.g, K.N, _, rfl, by omega, h.p, Nat.le_refl _, hN, by simp [hl], by simp only [Nat.mul_one]; rw [List.take_of_length_le (by simp [hl])]⟩⟩

theorem Mem.readsP {K : Kon} {M : St} {w : World} (h : Mem K M w) : Reads w K.g K.N M.arr :=
  ⟨h.pl, (Array.getElem?_eq_some_iff.1 h.p).1, fun j hj => by
    rw [cell_of_row w K.g j _ _ _ h.p, dist_get _ j (by rw [h.pl]; exact hj), iAt_dAt' _ _ (by rw [h.pl]; exact hj)]⟩

theorem own_zero {w : World} {B e sz n : Nat} {a : Option Addr} {cap : Nat} {xs : List Value} (h : w.ownsRow B e sz (.slice a n cap) n xs) : w.ownsRow B e sz (.slice a 0 cap) 0 [] := by
  refine ⟨by simp, ?_⟩
  rcases h.2 with ⟨h0, _⟩ | ⟨g, c, cur, hv, h1, h2, h3, h4, h5, h6⟩
  · cases h0
    exact .inl ⟨rfl, rfl⟩
  · simp only [Value.slice.injEq] at hv
    obtain ⟨rfl, _, rfl⟩ := hv
    exact .inr ⟨g, cap, cur, rfl, h1, h2, by omega, h4, h5, by simp⟩

theorem own_slice {w : World} {B e sz n : Nat} {v : Value} {xs : List Value} (h : w.ownsRow B e sz v n xs) : ∃ a cap g, v = .slice a n cap ∧ n ≤ cap ∧ cap ≤ maxLen ∧ (0 < n → a = some ⟨g, 0, none⟩) ∧ (a = none ∨ a = some ⟨g, 0, none⟩) := by
  rcases h.2 with ⟨h0, h1⟩ | ⟨g, c, cur, hv, h1, h2, h3, h4, h5, h6⟩
  · subst h1
    exact ⟨none, 0, 0, h0, Nat.le_refl _, Nat.zero_le _, fun h => by omega, .inl rfl⟩
  · exact ⟨_, c, g, hv, h3, h4, fun _ => rfl, .inr rfl⟩

/-- The blocks that 'writersBefore' may turn. -/
def Kon.own (K : Kon) (M : St) : List Nat := K.bD :: K.bQ :: K.bTW :: K.g :: K.bF :: M.qb :: M.fv.ownBlock.toList

structure WrAt (own : List Nat) (K : Kon) (R : Nat → Nat → Prop) (cc s : Nat) (P : Nat → Prop) (u H : Nat) (d before : Int) (ws : Nat → List (Int × Int)) (tr0 ds0 : List Int) (fv : Value) (fl : List Int) (W : World) (i : Nat) (M : St) (w : World) : Prop where
  mem : Mem K M w
  now : Now R K.n cc s P u d M.ds M.q
  more : More ds0 M.ds
  taken : Taken K.items ws M.tw M.ds
  pend : Pend H K.z K.items ws M.tw M.arr
  tr : M.tr = tr0
  efl : M.fl = fl
  efv : M.fv = fv
  below : Below K.B W w
  turned : Turned own W w
  qbk : M.qb ∈ own ∨ W.heap.size ≤ M.qb
  done : ∀ (j : Nat) (x : Int), j < i → fl[j]? = some x → DoneW ws before M.ds x.toNat

def WritePost (K : Kon) (R : Nat → Nat → Prop) (cc s : Nat) (P : Nat → Prop) (u H : Nat) (d before : Int) (ws : Nat → List (Int × Int)) (lo hi : Nat) (M0 : St) (W : World) (w : World) : Prop :=
  ∃ M, Mem K M w ∧ Now R K.n cc s P u d M.ds M.q ∧ More M0.ds M.ds ∧ Taken K.items ws M.tw M.ds ∧ Pend H K.z K.items ws M.tw M.arr ∧ M.tr = M0.tr ∧ Below K.B W w ∧ Turned (K.own M0) W w ∧ ∀ x, lo ≤ x → x < hi → DoneW ws before M.ds x

/-- Behind 'found = pending.below(..)'. -/
def FoundAt (K : Kon) (R : Nat → Nat → Prop) (cc s : Nat) (P : Nat → Prop) (u H : Nat) (d before : Int) (ws : Nat → List (Int × Int)) (lo hi : Nat) (M0 : St) (W : World) (w : World) : Prop :=
  ∃ M, WrAt (K.own M0) K R cc s P u H d before ws M0.tr M0.ds M.fv M.fl W 0 M w ∧ M.fl.length ≤ 100000000 ∧ ∀ y : Int, y ∈ M.fl ↔ ∃ x : Nat, y = x ∧ lo ≤ x ∧ x < hi ∧ iAt M.arr (K.z + x) < before

set_option maxHeartbeats 6400000 in
set_option maxRecDepth 100000 in
theorem writers_any (K : Kon) (R : Nat → Nat → Prop) (cc s : Nat) (P : Nat → Prop) (u H lo hi bWrb bWr : Nat) (d before : Int) (ws : Nat → List (Int × Int)) (M : St) (w : World) (hK : Hid K.Ok) (HZ : Hid (K.z = 2 ^ H)) (HN : Hid (K.N = 2 * K.z)) (hn : (K.n : Int) ≤ 1024) (hz : (K.z : Int) ≤ 200000) (hit : (K.items : Int) ≤ K.z) (hlo : (lo : Int) ≤ 1000000) (hhi : (hi : Int) ≤ K.items)
    (hM : Hid (Mem K M w)) (hNow : Hid (Now R K.n cc s P u d M.ds M.q)) (hT : Hid (Taken K.items ws M.tw M.ds)) (hP : Hid (Pend H K.z K.items ws M.tw M.arr)) (hTab : Hid (Tab K.B w bWrb bWr K.items ws))
    (hS : Hid (∀ x, (ws x).Pairwise (fun a b => a.1 ≤ b.1))) (hR : Hid (∀ x, x < K.items → ∀ y ∈ ws x, 0 ≤ y.2 ∧ y.2 < K.n)) (hE : Hid (∀ x, lo ≤ x → x < hi → ∀ y ∈ ws x, y.1 < before → R u y.2.toNat ∨ y.2.toNat = u)) :
    Calls Try.prog 21 #[.int .i64 lo, .int .i64 hi, .int .i64 before, .int .i64 d, .pointer (some ⟨K.bP, 0, none⟩), .pointer (some ⟨K.bF, 0, none⟩), .pointer (some ⟨bWrb, 0, none⟩), .pointer (some ⟨K.bTWb, 0, none⟩), .pointer (some ⟨K.bReach, 0, none⟩)] w fun e w' => e = .returned (.tuple #[]) ∧ WritePost K R cc s P u H d before ws lo hi M w w' := by
  have c0 := cell_of_row w K.bP 0 _ _ _ hM.out.pb
  have c1 := cell_of_row w K.bP 1 _ _ _ hM.out.pb
  have c2 := cell_of_row w K.bF 0 _ _ _ hM.out.fb
  simp only [List.getElem?_toArray, List.getElem?_cons_zero, List.getElem?_cons_succ] at c0 c1 c2
  obtain ⟨a0, cap0, g0, hfv, hfc, hfm, _, ha0⟩ := own_slice hM.out.fo
  rw [hfv] at c2
  have FV := hidden hfv
  have FC := hidden hfc
  have hfm' : (cap0 : Int) ≤ 9223372036854775807 := by unfold maxLen at hfm; omega
  have hfl' : (M.fl.length : Int) ≤ cap0 := by omega
  clear hfv hfc hfm
  go_enter Try.func21, Try.ntmps21
  go_upto_region 0 with fail
  go_cut [14] (fun _ wc => Hid (FoundAt K R cc s P u H d before ws lo hi M w wc))
  case first =>
    have HB : Hid (∀ w0, Turned [] w w0 → Calls Try.prog 22 #[.agg #[.int .i64 K.z, .slice (some ⟨K.g, 0, none⟩) K.N K.N], .int .i64 lo, .int .i64 hi, .int .i64 before, .slice a0 0 cap0] w0 fun e w' => ∃ a1 n1 c1, e = .returned (.slice a1 n1 c1) ∧ Hid (FoundAt K R cc s P u H d before ws lo hi M w (w'.setCell ⟨K.bF, 0, none⟩ (.slice a1 n1 c1))) ∧ w'.cell? ⟨K.bF, 0, none⟩ = some (.slice a0 M.fl.length cap0) ∧ w'.frozen? ⟨K.bF, 0, none⟩ = false) := hidden fun w0 ht0 => by
      have hm0 := hM.out.kept ht0
      have ho := hm0.fo
      rw [FV.out] at ho
      have hkk := hK.out
      unfold Kon.Ok at hkk
      have htop := hm0.top
      have hob : (Value.slice a0 0 cap0).ownBlock = M.fv.ownBlock := by rw [FV.out]; cases a0 <;> rfl
      refine (below_any K.B K.g K.z K.N H lo hi M.arr before a0 cap0 w0 HZ HN (by omega) (by omega) (by omega) (hidden hP.out.isMin) (hidden hm0.readsP) (hidden (own_zero ho)) (by omega) (hidden fun k hk => by
        rw [hob] at hk
        have := hM.out.fbn k hk
        omega)).mono ?_
      rintro e w' ⟨v, xs, rfl, h1, h2, h3, h4, h5⟩
      rw [hob] at h4 h5
      obtain ⟨a1, c1, g1, rfl, _⟩ := own_slice h1
      obtain ⟨m1, t1, b1⟩ := hm0.setF hK.out h4 h1 h5
      refine ⟨a1, _, c1, rfl, hidden ⟨_, ⟨m1, hNow.out, More.refl _, hT.out, hP.out, rfl, rfl, rfl, ?_, ?_, ?_, fun j x hj => by omega⟩, h3, h2⟩, ?_, frozen_of_row w' K.bF 0 _ _ b1⟩
      · refine (ht0.below (by have := hM.out.top; omega) (by simp)).trans (t1.below (by omega) ?_)
        intro k hk
        rcases List.mem_cons.1 hk with rfl | hk
        · omega
        · rw [Option.mem_toList] at hk
          have := hM.out.fbn k hk
          omega
      · refine Turned.trans (S := K.own M) ⟨ht0.os, ht0.tape, ht0.output, ht0.size, fun k hk _ => ht0.block k hk (by simp)⟩ t1 (fun x hx => .inl ?_)
        rcases List.mem_cons.1 hx with rfl | hx
        · simp [Kon.own]
        · simp only [Kon.own, List.mem_cons]
          exact .inr (.inr (.inr (.inr (.inr (.inr hx)))))
      · exact .inl (by simp [Kon.own])
      · rw [cell_of_row w' K.bF 0 _ _ _ b1, FV.out]
        rfl
    go_region_with (refine (HB.out _ (Turned.drew (Turned.refl _ _))).mono ?_; rintro e w' ⟨a1, n1, c1, rfl, hf1, hf2, hf3⟩)
    all_goals
      go_wp2_with fail
      go_meet
      exact hf1
  case rest =>
    obtain ⟨M1, hA, hfl, hmem⟩ := hcut.out
    obtain ⟨a1, cap1, g1, hfv, hfc, hfm, ha1, _⟩ := own_slice hA.mem.fo
    have e0 := cell_of_row wc K.bF 0 _ _ _ hA.mem.fb
    simp only [List.getElem?_toArray, List.getElem?_cons_zero] at e0
    rw [hfv] at e0
    obtain ⟨L, hL⟩ : ∃ L, L = M1.fl.length := ⟨_, rfl⟩
    rw [← hL] at e0
    have HL := hidden hL
    have HFV := hidden hfv
    have HA1 := hidden ha1
    have HAA := hidden hA
    have HMEM := hidden hmem
    have hL2 : (L : Int) ≤ 100000000 := by omega
    have HIDLE : Hid (∀ x, lo ≤ x → x < hi → (x : Int) ∉ M1.fl → DoneW ws before M1.ds x) := hidden fun x h1 h2 h3 => by
      refine hA.pend.idle hA.taken hS.out (by omega) ?_
      rcases Int.lt_or_le (iAt M1.arr (K.z + x)) before with h4 | h4
      · exact absurd ((hmem x).2 ⟨x, rfl, h1, h2, h4⟩) h3
      · exact h4
    have S0 : Hid (WrAt (K.own M) K R cc s P u H d before ws M.tr M1.ds M1.fv M1.fl w 0 M1 wc) := hidden ⟨hA.mem, hA.now, More.refl _, hA.taken, hA.pend, hA.tr, rfl, rfl, hA.below, hA.turned, hA.qbk, fun j x hj => by omega⟩
    have HMO := hidden hA.more
    clear hA hfl hmem hL hfv ha1 hcut hfc hfm
    go_wp2_with fail
    go_loopw [26] (fun v wr => ∃ (i : Nat) (M' : St), v = .int .i64 i ∧ i ≤ L ∧ Hid (WrAt (K.own M) K R cc s P u H d before ws M.tr M1.ds M1.fv M1.fl w i M' wr)) (fun v _ => L - (intOf v).toNat)
    case atStart => exact ⟨0, M1, rfl, Nat.zero_le _, S0⟩
    case round =>
      clear S0 e0
      obtain ⟨i, M', rfl, hi, hI⟩ := hrel
      by_cases hlt : (i : Int) < L
      case neg =>
        go_wp2_with fail
        go_returns
        refine ⟨rfl, M', hI.out.mem, hI.out.now, HMO.out.trans hI.out.more, hI.out.taken, hI.out.pend, hI.out.tr, hI.out.below, hI.out.turned, fun x h1 h2 => ?_⟩
        by_cases hm : (x : Int) ∈ M1.fl
        · obtain ⟨j, hj⟩ := List.mem_iff_getElem?.1 hm
          have := hI.out.done j x (by have := (List.getElem?_eq_some_iff.1 hj).1; have := HL.out; omega) hj
          simpa using this
        · exact (HIDLE.out x h1 h2 hm).more hI.out.more
      obtain rfl := HA1.out (by have := HL.out; omega)
      obtain ⟨xi, hxi⟩ : ∃ xi, M1.fl[i]? = some xi := ⟨_, List.getElem?_eq_getElem (by have := HL.out; omega)⟩
      obtain ⟨x, rfl, hx1, hx2, hx3⟩ := (HMEM.out xi).1 (List.mem_of_getElem? hxi)
      have c5 : wr.cell? ⟨g1, i, none⟩ = some (.int .i64 (x : Int)) := by
        have ho := hI.out.mem.fo
        rw [hI.out.efv, hI.out.efl, HFV.out] at ho
        rw [ho.cellAt i (by have := HL.out; omega), List.getElem?_map, hxi]
        rfl
      have hxi' : x < K.items := by omega
      obtain ⟨v, hv0, a, cap, g, rfl, ha, hg, hlen, hcells⟩ := hTab.out.row x hxi'
      have hv := (hI.out.below.cell (p := ⟨bWr, x, none⟩) hTab.out.lt.2).trans hv0
      clear hv0
      have HC := hidden hcells
      have HA := hidden ha
      clear hcells ha
      have d0 := (hI.out.below.cell (p := ⟨bWrb, 0, none⟩) hTab.out.lt.1).trans (cell_of_row w bWrb 0 _ _ _ hTab.out.at_)
      have d1 := cell_of_row wr K.bTWb 0 _ _ _ hI.out.mem.twb
      have d2 := cell_of_row wr K.bTW x _ _ _ hI.out.mem.tw
      rw [dist_get _ x (by rw [hI.out.mem.twl]; exact hxi')] at d2
      simp only [List.getElem?_toArray, List.getElem?_cons_zero] at d0 d1
      have b0 : (0 : Int) ≤ (x : Int) := by omega
      have b2 : (x : Int) < K.items := by omega
      have b5 : (x : Int) ≤ 1000000 := by omega
      have b6 : (0 : Int) ≤ (i : Int) := by omega
      obtain ⟨k0, hk0⟩ : ∃ k0 : Nat, dAt M'.tw x = k0 := ⟨(dAt M'.tw x).toNat, by
        have h1 := hI.out.taken.low x hxi'
        rw [iAt_dAt' _ _ (by rw [hI.out.mem.twl]; exact hxi')] at h1
        omega⟩
      have hk1 : k0 ≤ (ws x).length := by
        have h1 := hI.out.taken.high x hxi'
        rw [iAt_dAt' _ _ (by rw [hI.out.mem.twl]; exact hxi'), hk0] at h1
        omega
      rw [hk0] at d2
      have D0 := hidden (show ∀ (j : Nat) (y : Int × Int), j < k0 → (ws x)[j]? = some y → 0 ≤ dAt M'.ds y.2.toNat from fun j y hj hy => hI.out.taken.met x hxi' j y (by rw [iAt_dAt' _ _ (by rw [hI.out.mem.twl]; exact hxi'), hk0]; omega) hy)
      have HXI := hidden hxi
      have HX3 := hidden hx3
      clear hk0 hxi hx3
      go_wp2_with fail
      go_quiet (fail)
      go_wp2_with fail
      go_loopw [16] (fun v wx => ∃ (k : Nat) (M2 : St), v = .int .i64 k ∧ k ≤ (ws x).length ∧ Hid (WrAt (K.own M) K R cc s P u H d before ws M.tr M1.ds M1.fv M1.fl w i M2 wx) ∧ Hid (∀ (j : Nat) (y : Int × Int), j < k → (ws x)[j]? = some y → 0 ≤ dAt M2.ds y.2.toNat)) (fun v _ => (ws x).length - (intOf v).toNat)
      case atStart => exact ⟨k0, M', rfl, hk1, hidden ⟨hI.out.mem.kept (Turned.drewN (Turned.refl _ _) _), hI.out.now, hI.out.more, hI.out.taken, hI.out.pend, hI.out.tr, hI.out.efl, hI.out.efv, below_drewN hI.out.below _, hI.out.turned.drewN _, hI.out.qbk, hI.out.done⟩, D0⟩
      case round =>
        clear D0 hk1 d2 hI c5
        obtain ⟨k, M2, rfl, hk, hI, hD⟩ := hrel
        have f1 := cell_of_row wr K.bTWb 0 _ _ _ hI.out.mem.twb
        have f2 := cell_of_row wr K.bTW x _ _ _ hI.out.mem.tw
        have f3 := frozen_of_row wr K.bTW x _ _ hI.out.mem.tw
        have f4 := cell_of_row wr K.bReach 0 _ _ _ hI.out.mem.reach
        rw [dist_get _ x (by rw [hI.out.mem.twl]; exact hxi')] at f2
        simp only [List.getElem?_toArray, List.getElem?_cons_zero] at f1 f4
        obtain ⟨mt, tt⟩ := hI.out.mem.setTW hK.out x k
        have p0 := cell_of_row (wr.setCell ⟨K.bTW, x, none⟩ (.int .i64 k)) K.bP 0 _ _ _ mt.pb
        have p1 := cell_of_row (wr.setCell ⟨K.bTW, x, none⟩ (.int .i64 k)) K.bP 1 _ _ _ mt.pb
        simp only [List.getElem?_toArray, List.getElem?_cons_zero, List.getElem?_cons_succ] at p0 p1
        have MT := hidden (And.intro mt tt)
        clear mt tt
        have hxz : (x : Int) < K.z := by omega
        have hN64 : K.N ≤ maxLen := by have := HN.out; unfold maxLen; omega
        have OP := hidden (MT.out.1.ownP hK.out hN64)
        have FIN : Hid ((∀ y, (ws x)[k]? = some y → before ≤ y.1) → ∀ (w0 w2 : World) (v : Int), v = ((ws x)[k]?.map Prod.fst).getD 9223372036854775807 → Turned [] (wr.setCell ⟨K.bTW, x, none⟩ (.int .i64 k)) w0 → SetDone K.B K.g K.z K.N H x v M2.arr w2 → w0.grownBy w2 (some K.g) → ∃ M3, WrAt (K.own M) K R cc s P u H d before ws M.tr M1.ds M1.fv M1.fl w (i + 1) M3 w2) := hidden fun hst w0 w2 v hv ht0 hsd hg2 => by
          obtain ⟨arr', h1, h2, h3⟩ := hsd
          obtain ⟨m2, t2⟩ := (MT.out.1.kept ht0).setP hK.out hg2 (by have := h3.1; simpa using this) h3
          have hkk := hK.out
          unfold Kon.Ok at hkk
          have htop := hI.out.mem.top
          have hs0 := MT.out.2.size
          have hs1 := ht0.size
          refine ⟨_, m2, hI.out.now, hI.out.more, hI.out.taken.set hxi' hk hD.out, hI.out.pend.set hI.out.mem.twl (by omega) hxi' hv h1 h2, hI.out.tr, hI.out.efl, hI.out.efv, ?_, ?_, hI.out.qbk, fun j y hj hy => ?_⟩
          · exact ((hI.out.below.trans (MT.out.2.below (by omega) (by simp; omega))).trans (ht0.below (by omega) (by simp))).trans (t2.below (by omega) (by simp; omega))
          · exact ((hI.out.turned.trans MT.out.2 (fun x hx => .inl (by simp at hx; subst hx; simp [Kon.own]))).trans ht0 (by simp)).trans t2 (fun x hx => .inl (by simp at hx; subst hx; simp [Kon.own]))
          · by_cases hij : j = i
            · subst hij
              rw [HXI.out] at hy
              cases hy
              intro y' hy' hb'
              rw [Int.toNat_natCast] at hy'
              obtain ⟨m, hm⟩ := List.mem_iff_getElem?.1 hy'
              exact hD.out m y' (sorted_prefix (hS.out x) hst hm hb') hm
            · exact hI.out.done j y (by omega) hy
        by_cases hlt2 : (k : Int) < (ws x).length
        case neg =>
          go_wp2_with fail
          refine (set_any K.B K.g K.z K.N H x 9223372036854775807 M2.arr _ HZ HN (by omega) (by omega) (hidden hI.out.pend.isMin) OP).mono ?_
          rintro e w2 ⟨rfl, hsd, hg2⟩
          obtain ⟨M3, h3⟩ := FIN.out (fun y hy => by have := (List.getElem?_eq_some_iff.1 hy).1; omega) _ w2 _ (by rw [List.getElem?_eq_none (by omega)]; rfl) (Turned.refl _ _) hsd hg2
          have H3 := hidden h3
          clear h3 hsd hg2
          go_wp2_with fail
          exact ⟨⟨i + 1, M3, by go_num, by omega, H3⟩, by simp [intOf]; omega⟩
        obtain rfl := HA.out (by omega)
        obtain ⟨y, hy⟩ : ∃ y, (ws x)[k]? = some y := ⟨_, List.getElem?_eq_getElem (by omega)⟩
        obtain ⟨e1, e2⟩ := HC.out k y hy
        have e3 := (hI.out.below.cell (p := ⟨g, k * 2, none⟩) hg).trans e1
        have e4 := (hI.out.below.cell (p := ⟨g, k * 2 + 1, none⟩) hg).trans e2
        clear e1 e2
        by_cases hpos0 : y.1 < before
        case neg =>
          have e5 : (wr.setCell ⟨K.bTW, x, none⟩ (.int .i64 k)).cell? ⟨g, k * 2, none⟩ = some (.int .i64 y.1) := (World.cell?_setCell_other wr _ _ _ (ne_blk0 (by have := hK.out; unfold Kon.Ok at this; omega))).trans e3
          go_wp2_with fail
          go_region_with (refine (set_any K.B K.g K.z K.N H x y.1 M2.arr _ HZ HN (by omega) (by omega) (hidden hI.out.pend.isMin) (hidden OP.out.drew)).mono ?_; rintro e w2 ⟨rfl, hsd, hg2⟩)
          all_goals
            obtain ⟨M3, h3⟩ := FIN.out (fun y' hy' => by rw [hy] at hy'; cases hy'; omega) _ w2 _ (by rw [hy]; rfl) (Turned.drew (Turned.refl _ _)) hsd hg2
            have H3 := hidden h3
            clear h3 hsd hg2
            go_wp2_with fail
            exact ⟨⟨i + 1, M3, by go_num, by omega, H3⟩, by simp [intOf]; omega⟩
        have hym := List.mem_of_getElem? hy
        obtain ⟨y0, y1⟩ := hR.out x hxi' y hym
        obtain ⟨t, ht⟩ : ∃ t : Nat, y.2 = t := ⟨y.2.toNat, by omega⟩
        rw [ht] at e4 y1
        have HT := hidden ht
        clear ht y0
        go_wp2_with fail
        have HM : Hid (∀ w0 w2, Turned [] wr w0 → ReachPost K.bDist K.bD K.bQ K.n t d M2.ds M2.q M2.qb w0 w2 → ∃ M3, WrAt (K.own M) K R cc s P u H d before ws M.tr M1.ds M1.fv M1.fl w i M3 w2 ∧ ∀ (j : Nat) (y : Int × Int), j < k + 1 → (ws x)[j]? = some y → 0 ≤ dAt M3.ds y.2.toNat) := hidden fun w0 w2 ht0 hp => by
          obtain ⟨qb', qo', qc', m1, l1, t1⟩ := (hI.out.mem.kept ht0).reached hK.out hp
          have hlen := hI.out.now.len
          have hpos := hI.out.now.pos
          obtain ⟨s1, s2⟩ := More.step (ds := M2.ds) (v := t) (d := d) (by omega) (by omega)
          have hkk := hK.out
          unfold Kon.Ok at hkk
          have htop := (hI.out.mem.kept ht0).top
          have hqb := hI.out.mem.qbn
          refine ⟨_, ⟨m1, hI.out.now.step (by omega) ?_, hI.out.more.trans s1, hI.out.taken.more s1, hI.out.pend, hI.out.tr, hI.out.efl, hI.out.efv, (hI.out.below.trans (ht0.below (by have := hI.out.mem.top; omega) (by simp))).trans (t1.below (by omega) (by simp; omega)), (hI.out.turned.trans ht0 (by simp)).trans t1 (fun x hx => ?_), ?_, fun j y hj hy => (hI.out.done j y hj hy).more s1⟩, fun j z hj hz => ?_⟩
          · have h1 := hE.out x hx1 hx2 y hym hpos0
            rw [HT.out] at h1
            simpa using h1
          · simp only [List.mem_cons, List.mem_nil_iff, or_false] at hx
            rcases hx with rfl | rfl | rfl
            · exact .inl (by simp [Kon.own])
            · exact .inl (by simp [Kon.own])
            · exact hI.out.qbk
          · rcases l1 with e | e
            · show qb' ∈ _ ∨ _ ≤ qb'
              rw [e]
              exact hI.out.qbk
            · exact .inr (Nat.le_trans (Nat.le_trans hI.out.turned.size ht0.size) e)
          · by_cases hik : j = k
            · subst hik
              rw [hy] at hz
              cases hz
              rw [HT.out]
              show 0 ≤ dAt (if dAt M2.ds t < 0 then M2.ds.set t d else M2.ds) t
              exact s2
            · exact s1 _ (hD.out j z (by omega) hz)
        go_region_with (refine (reach_any K.bDist K.bD K.bQ K.n t d M2.ds M2.q M2.qb M2.qo M2.qc _ y1 hn (hidden (by have := hI.out.now.cnt; omega)) (hidden (hI.out.mem.kept (Turned.drew (Turned.refl _ _))).q)).mono ?_; rintro e w2 ⟨rfl, hpost⟩)
        all_goals
          obtain ⟨M3, h3, h4⟩ := HM.out _ _ (Turned.drew (Turned.refl _ _)) hpost
          have H3 := hidden h3
          have H4 := hidden h4
          clear h3 h4 hpost
          go_wp2_with fail
          exact ⟨⟨k + 1, M3, by go_num, by omega, H3, H4⟩, by simp [intOf]; omega⟩


end Go.Proofs.Qxb6612201a
