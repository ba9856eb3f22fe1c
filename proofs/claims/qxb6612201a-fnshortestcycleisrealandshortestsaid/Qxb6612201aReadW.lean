/-
  WALK: 'readersBefore' (23).
-/
import Derived.Test.Qxb6612201aPh2
import Derived.Test.Qxb6612201aSrch
import Derived.BigQuiet
import Derived.Deep.RegionWith
import Derived.Shelf.Abstract
namespace Go.Proofs.Qxb6612201a
open Go.RowKit Go.Shelf
set_option linter.unusedVariables false
set_option linter.unusedSimpArgs false

theorem Try.enters18 : ∀ args w, (callFunc 18 args).run Try.prog w = .ok (.enter 18 args) w := enters_of Try.func18 (by kernel_rfl) rfl

theorem iAt_dAt' (ds : List Int) (v : Nat) (hv : v < ds.length) : iAt ds v = dAt ds v := by
  unfold iAt dAt
  rw [List.getD_eq_getElem?_getD, List.getD_eq_getElem?_getD, List.getElem?_eq_getElem hv]
  rfl

/-- The same but for the distances, the queue, the reads taken. -/
def SameR (M M' : St) : Prop := M'.tw = M.tw ∧ M'.arr = M.arr ∧ M'.fv = M.fv ∧ M'.fl = M.fl

/-- Between the rounds of 'readersBefore': j rounds are done. -/
structure RdAt' (K : Kon) (R : Nat → Nat → Prop) (cc s : Nat) (P : Nat → Prop) (u : Nat) (d before : Int) (rows : Nat → List (Int × Int)) (x : Nat) (M0 : St) (W : World) (j : Nat) (M : St) (w : World) : Prop where
  mem : Mem K M w
  now : Now R K.n cc s P u d M.ds M.q
  more : More M0.ds M.ds
  taken : Taken K.N rows M.tr M.ds
  same : SameR M0 M
  below : Below K.B W w
  done : ∀ i, i < j → ∀ y ∈ rows ((K.z + x) / 2 ^ i), y.1 < before → 0 ≤ dAt M.ds y.2.toNat

def ReadPost (K : Kon) (R : Nat → Nat → Prop) (cc s : Nat) (P : Nat → Prop) (u H : Nat) (d before : Int) (rows : Nat → List (Int × Int)) (x : Nat) (M0 : St) (W : World) (w : World) : Prop :=
  ∃ M, Mem K M w ∧ Now R K.n cc s P u d M.ds M.q ∧ More M0.ds M.ds ∧ Taken K.N rows M.tr M.ds ∧ SameR M0 M ∧ Below K.B W w ∧ ∀ p, 1 ≤ p → Under H p x → ∀ y ∈ rows p, y.1 < before → 0 ≤ dAt M.ds y.2.toNat

set_option maxHeartbeats 6400000 in
set_option maxRecDepth 100000 in
theorem readers_any (K : Kon) (R : Nat → Nat → Prop) (cc s : Nat) (P : Nat → Prop) (u H x bTree bRdb bRd : Nat) (d before : Int) (rows : Nat → List (Int × Int)) (M : St) (w : World) (hK : Hid K.Ok) (HZ : Hid (K.z = 2 ^ H)) (HN : Hid (K.N = 2 * K.z)) (hn : (K.n : Int) ≤ 1024) (hz : (K.z : Int) ≤ 200000) (hx : (x : Int) < K.z)
    (hM : Hid (Mem K M w)) (hNow : Hid (Now R K.n cc s P u d M.ds M.q)) (hT : Hid (Taken K.N rows M.tr M.ds)) (hTab : Hid (Tab K.B w bRdb bRd K.N rows)) (hTree : Hid (w.heap[bTree]? = some (.cells #[.int .i64 K.z] 44 (0, 0)) ∧ bTree < K.B))
    (hS : Hid (∀ q, (rows q).Pairwise (fun a b => a.1 ≤ b.1))) (hR : Hid (∀ q, q < K.N → ∀ y ∈ rows q, 0 ≤ y.2 ∧ y.2 < K.n)) (hE : Hid (∀ q, 1 ≤ q → Under H q x → ∀ y ∈ rows q, y.1 < before → R u y.2.toNat ∨ y.2.toNat = u)) :
    Calls Try.prog 23 #[.int .i64 x, .int .i64 before, .int .i64 d, .pointer (some ⟨bTree, 0, none⟩), .pointer (some ⟨bRdb, 0, none⟩), .pointer (some ⟨K.bTRb, 0, none⟩), .pointer (some ⟨K.bReach, 0, none⟩)] w fun e w' => e = .returned (.tuple #[]) ∧ ReadPost K R cc s P u H d before rows x M w w' := by
  have c0 := cell_of_row w bTree 0 _ _ _ hTree.out.1
  simp only [List.getElem?_toArray, List.getElem?_cons_zero] at c0
  go_enter Try.func23, Try.ntmps23
  go_wp2_with fail
  refine (leaf_any K.z x _ (by omega) (by omega)).mono ?_
  rintro e w1 ⟨rfl, hw1⟩
  have ht1 : Turned [] w w1 := by rw [← hw1]; exact Turned.of_grown (World.grownBy_alloc w _ none) [] (fun k hk => by cases hk)
  have hB1 : Below K.B w w1 := ht1.below (by have := hM.out.top; have := hK.out; unfold Kon.Ok at this; omega) (by simp)
  have S0 := hidden (show RdAt' K R cc s P u d before rows x M w 0 M w1 from ⟨hM.out.kept ht1, hNow.out, More.refl _, hT.out, ⟨rfl, rfl, rfl, rfl⟩, hB1, fun i hi => by omega⟩)
  clear hw1 ht1 hB1
  have b1 : (K.z : Int) + x ≤ 1000000 := by omega
  go_wp2_with fail
  go_loopw [10] (fun v wr => ∃ (j : Nat) (M' : St), v = .int .i64 ((K.z + x) / 2 ^ j : Nat) ∧ Hid (RdAt' K R cc s P u d before rows x M w j M' wr)) (fun v _ => (intOf v).toNat)
  case atStart => exact ⟨0, M, by simp, S0⟩
  case round =>
    clear S0
    obtain ⟨j, M', rfl, hI⟩ := hrel
    obtain ⟨q, hq⟩ : ∃ q, q = (K.z + x) / 2 ^ j := ⟨_, rfl⟩
    have hql : q < K.N := by
      have h1 : q ≤ K.z + x := by rw [hq]; exact Nat.div_le_self _ _
      have := HN.out
      omega
    have HQ := hidden hq
    rw [← hq]
    clear hq
    by_cases hq1 : (1 : Int) ≤ q
    case neg =>
      go_wp2_with fail
      go_returns
      refine ⟨rfl, M', hI.out.mem, hI.out.now, hI.out.more, hI.out.taken, hI.out.same, hI.out.below, fun p hp hu y hy hlt => ?_⟩
      obtain ⟨i, hi⟩ := hu
      rw [← HZ.out] at hi
      rcases Nat.lt_or_ge i j with h | h
      · exact hI.out.done i h y (by rw [hi]; exact hy) hlt
      · exfalso
        have h1 : (K.z + x) / 2 ^ i ≤ (K.z + x) / 2 ^ j := Nat.div_le_div_left (Nat.pow_le_pow_right (by decide) h) (Nat.two_pow_pos _)
        have := HQ.out
        omega
    obtain ⟨v, hv0, a, cap, g, rfl, ha, hg, hlen, hcells⟩ := hTab.out.row q hql
    have hv := (hI.out.below.cell (p := ⟨bRd, q, none⟩) hTab.out.lt.2).trans hv0
    clear hv0
    have HC := hidden hcells
    have HA := hidden ha
    clear hcells ha
    have d0 := cell_of_row wr bRdb 0 _ _ _ (hTab.out.below hI.out.below).at_
    have d1 := cell_of_row wr K.bTRb 0 _ _ _ hI.out.mem.trb
    have d2 := cell_of_row wr K.bTR q _ _ _ hI.out.mem.tr
    rw [dist_get _ q (by rw [hI.out.mem.trl]; exact hql)] at d2
    simp only [List.getElem?_toArray, List.getElem?_cons_zero] at d0 d1
    have b0 : (0 : Int) ≤ (q : Int) := by omega
    have b2 : (q : Int) < K.N := by omega
    have b5 : (q : Int) ≤ 1000000 := by have := HN.out; omega
    obtain ⟨k0, hk0⟩ : ∃ k0 : Nat, dAt M'.tr q = k0 := ⟨(dAt M'.tr q).toNat, by
      have h1 := hI.out.taken.low q hql
      rw [iAt_dAt' _ _ (by rw [hI.out.mem.trl]; exact hql)] at h1
      omega⟩
    have hk1 : k0 ≤ (rows q).length := by
      have h1 := hI.out.taken.high q hql
      rw [iAt_dAt' _ _ (by rw [hI.out.mem.trl]; exact hql), hk0] at h1
      omega
    rw [hk0] at d2
    have D0 := hidden (show ∀ (i : Nat) (y : Int × Int), i < k0 → (rows q)[i]? = some y → 0 ≤ dAt M'.ds y.2.toNat from fun i y hi hy => hI.out.taken.met q hql i y (by rw [iAt_dAt' _ _ (by rw [hI.out.mem.trl]; exact hql), hk0]; omega) hy)
    clear hk0
    go_wp2_with fail
    go_quiet (fail)
    go_wp2_with fail
    go_loopw [12] (fun v wx => ∃ (k : Nat) (M2 : St), v = .int .i64 k ∧ k ≤ (rows q).length ∧ Hid (RdAt' K R cc s P u d before rows x M w j M2 wx) ∧ Hid (∀ (i : Nat) (y : Int × Int), i < k → (rows q)[i]? = some y → 0 ≤ dAt M2.ds y.2.toNat)) (fun v _ => (rows q).length - (intOf v).toNat)
    case atStart => exact ⟨k0, M', rfl, hk1, hidden ⟨hI.out.mem.kept (Turned.drewN (Turned.refl _ _) _), hI.out.now, hI.out.more, hI.out.taken, hI.out.same, below_drewN hI.out.below _, hI.out.done⟩, D0⟩
    case round =>
      clear D0 hk1 d2 hI
      obtain ⟨k, M2, rfl, hk, hI, hD⟩ := hrel
      have f1 := cell_of_row wr K.bTRb 0 _ _ _ hI.out.mem.trb
      have f2 := cell_of_row wr K.bTR q _ _ _ hI.out.mem.tr
      have f3 := frozen_of_row wr K.bTR q _ _ hI.out.mem.tr
      have f4 := cell_of_row wr K.bReach 0 _ _ _ hI.out.mem.reach
      rw [dist_get _ q (by rw [hI.out.mem.trl]; exact hql)] at f2
      simp only [List.getElem?_toArray, List.getElem?_cons_zero] at f1 f4
      have FIN : Hid ((∀ y, (rows q)[k]? = some y → before ≤ y.1) → ∃ M3, RdAt' K R cc s P u d before rows x M w (j + 1) M3 (wr.setCell ⟨K.bTR, q, none⟩ (.int .i64 k))) := hidden fun hst => by
        obtain ⟨m1, t1⟩ := hI.out.mem.setTR hK.out q k
        refine ⟨_, m1, hI.out.now, hI.out.more, hI.out.taken.set hql hk hD.out, hI.out.same, hI.out.below.trans (t1.below (by have := hI.out.mem.top; have := hK.out; unfold Kon.Ok at this; omega) (by have := hK.out; unfold Kon.Ok at this; simp; omega)), fun i hi y hy hb => ?_⟩
        by_cases hij : i = j
        · subst hij
          rw [← HQ.out] at hy
          obtain ⟨m, hm⟩ := List.mem_iff_getElem?.1 hy
          exact hD.out m y (sorted_prefix (hS.out q) hst hm hb) hm
        · exact hI.out.done i (by omega) y hy hb
      have HDIV : Hid ((((K.z + x) / 2 ^ (j + 1) : Nat) : Int) = (q : Int) / 2) := hidden (by
        rw [Nat.pow_succ, ← Nat.div_div_eq_div_mul, ← HQ.out]
        omega)
      by_cases hlt : (k : Int) < (rows q).length
      case neg =>
        go_wp2_with fail
        go_roundw
        case rel =>
          obtain ⟨M3, h3⟩ := FIN.out (fun y hy => by have := (List.getElem?_eq_some_iff.1 hy).1; omega)
          exact ⟨j + 1, M3, by rw [HDIV.out], hidden h3⟩
        case measure => simp [intOf]; omega
      obtain rfl := HA.out (by omega)
      obtain ⟨y, hy⟩ : ∃ y, (rows q)[k]? = some y := ⟨_, List.getElem?_eq_getElem (by omega)⟩
      obtain ⟨e1, e2⟩ := HC.out k y hy
      have e3 := (hI.out.below.cell (p := ⟨g, k * 2, none⟩) hg).trans e1
      have e4 := (hI.out.below.cell (p := ⟨g, k * 2 + 1, none⟩) hg).trans e2
      clear e1 e2
      by_cases hpos0 : y.1 < before
      case neg =>
        go_wp2_with fail
        obtain ⟨M3, h3⟩ := FIN.out (fun y' hy' => by rw [hy] at hy'; cases hy'; omega)
        refine ⟨⟨j + 1, M3, by rw [HDIV.out], hidden h3⟩, by simp [intOf]; omega⟩
      have hym := List.mem_of_getElem? hy
      obtain ⟨y0, y1⟩ := hR.out q hql y hym
      obtain ⟨t, ht⟩ : ∃ t : Nat, y.2 = t := ⟨y.2.toNat, by omega⟩
      rw [ht] at e4 y1
      have HT := hidden ht
      clear ht y0
      go_wp2_with fail
      have HM : Hid (∀ w0 w2, Turned [] wr w0 → ReachPost K.bDist K.bD K.bQ K.n t d M2.ds M2.q M2.qb w0 w2 → ∃ M3, RdAt' K R cc s P u d before rows x M w j M3 w2 ∧ ∀ (i : Nat) (y : Int × Int), i < k + 1 → (rows q)[i]? = some y → 0 ≤ dAt M3.ds y.2.toNat) := hidden fun w0 w2 ht0 hp => by
        obtain ⟨qb', qo', qc', m1, l1, t1⟩ := (hI.out.mem.kept ht0).reached hK.out hp
        have hlen := hI.out.now.len
        have hpos := hI.out.now.pos
        obtain ⟨s1, s2⟩ := More.step (ds := M2.ds) (v := t) (d := d) (by omega) (by omega)
        have hkk := hK.out
        unfold Kon.Ok at hkk
        have htop := (hI.out.mem.kept ht0).top
        have hqb := hI.out.mem.qbn
        refine ⟨_, ⟨m1, hI.out.now.step (by omega) ?_, hI.out.more.trans s1, hI.out.taken.more s1, hI.out.same, (hI.out.below.trans (ht0.below (by have := hI.out.mem.top; omega) (by simp))).trans (t1.below (by omega) (by simp; omega)), fun i hi y hy hb => s1 _ (hI.out.done i hi y hy hb)⟩, fun i z hi hz => ?_⟩
        · have h1 := hE.out q (by omega) ⟨j, by rw [← HZ.out]; exact HQ.out.symm⟩ y hym hpos0
          rw [HT.out] at h1
          simpa using h1
        · by_cases hik : i = k
          · subst hik
            rw [hy] at hz
            cases hz
            rw [HT.out]
            show 0 ≤ dAt (if dAt M2.ds t < 0 then M2.ds.set t d else M2.ds) t
            exact s2
          · exact s1 _ (hD.out i z (by omega) hz)
      go_region_with (refine (reach_any K.bDist K.bD K.bQ K.n t d M2.ds M2.q M2.qb M2.qo M2.qc _ y1 hn (hidden (by have := hI.out.now.cnt; omega)) (hidden (hI.out.mem.kept (Turned.drew (Turned.refl _ _))).q)).mono ?_; rintro e w2 ⟨rfl, hpost⟩)
      all_goals
        obtain ⟨M3, h3, h4⟩ := HM.out _ _ (Turned.drew (Turned.refl _ _)) hpost
        have H3 := hidden h3
        have H4 := hidden h4
        clear h3 h4 hpost
        go_wp2_with fail
        exact ⟨⟨k + 1, M3, by go_num, by omega, H3, H4⟩, by simp [intOf]; omega⟩

end Go.Proofs.Qxb6612201a
