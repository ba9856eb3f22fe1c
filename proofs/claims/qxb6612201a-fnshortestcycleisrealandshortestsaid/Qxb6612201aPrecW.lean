/-
  WALK: conflictsFrom.precedes (26).
-/
import Derived.Test.Qxb6612201aConfW
import Derived.Deep.RegionHeld3
namespace Go.Proofs.Qxb6612201a
open Go.RowKit Go.Shelf
set_option linter.unusedVariables false
set_option linter.unusedSimpArgs false

/-- A slice of triples, read only, in a block below B. -/
structure T3 (B : Nat) (w : World) (a : Option Addr) (cap g : Nat) (zs : List (Int × Int × Int)) : Prop where
  addr : 0 < zs.length → a = some ⟨g, 0, none⟩
  form : a = some ⟨g, 0, none⟩ ∨ (a = none ∧ cap = 0 ∧ zs = [])
  lt : g < B
  len : zs.length ≤ 1000000
  cells : ∀ j x, zs[j]? = some x → w.cell? ⟨g, j * 3, none⟩ = some (.int .i64 x.1) ∧ w.cell? ⟨g, j * 3 + 1, none⟩ = some (.int .i64 x.2.1) ∧ w.cell? ⟨g, j * 3 + 2, none⟩ = some (.int .i64 x.2.2)

theorem T3.below {B : Nat} {w w' : World} {a : Option Addr} {cap g : Nat} {zs : List (Int × Int × Int)} (h : T3 B w a cap g zs) (hb : Below B w w') : T3 B w' a cap g zs :=
  ⟨h.addr, h.form, h.lt, h.len, fun j x hx =>
    ⟨(hb.cell (p := ⟨g, j * 3, none⟩) h.lt).trans (h.cells j x hx).1, (hb.cell (p := ⟨g, j * 3 + 1, none⟩) h.lt).trans (h.cells j x hx).2.1, (hb.cell (p := ⟨g, j * 3 + 2, none⟩) h.lt).trans (h.cells j x hx).2.2⟩⟩

/-- A transaction's accesses. -/
structure AC where
  (wa : Option Addr)
  (wc wg wl : Nat)
  (ra : Option Addr)
  (rc rg rl : Nat)
def AC.val (A : AC) : Value := .agg #[.slice A.wa A.wl A.wc, .slice A.ra A.rl A.rc]
structure ACMem (B : Nat) (A : AC) (vw vr : List (Int × Int × Int)) (w : World) : Prop where
  wl : A.wl = vw.length
  rl : A.rl = vr.length
  wr : T3 B w A.wa A.wc A.wg vw
  rd : T3 B w A.ra A.rc A.rg vr
  wok : ∀ t ∈ vw, 0 ≤ t.1 ∧ t.1 ≤ 1000000 ∧ 0 ≤ t.2.2 ∧ t.2.2 ≤ 1000000
  rok : ∀ t ∈ vr, 0 ≤ t.1 ∧ t.1 ≤ 1000000 ∧ 0 ≤ t.2.2 ∧ t.2.2 ≤ 1000000

theorem ACMem.below {B : Nat} {A : AC} {vw vr : List (Int × Int × Int)} {w w' : World} (h : ACMem B A vw vr w) (hb : Below B w w') : ACMem B A vw vr w' := { h with wr := h.wr.below hb, rd := h.rd.below hb }

def T1 (uw : List (Int × Int × Int)) (t : Int × Int × Int) : Prop := ∃ x ∈ uw, x.1 = t.1 ∧ x.2.1 < t.2.2
def T2 (ur : List (Int × Int × Int)) (t : Int × Int × Int) : Prop := ∃ r ∈ ur, r.1 ≤ t.1 ∧ t.1 < r.2.1 ∧ r.2.2 < t.2.2
def T4 (uw : List (Int × Int × Int)) (r : Int × Int × Int) : Prop := ∃ t ∈ uw, r.1 ≤ t.1 ∧ t.1 < r.2.1 ∧ t.2.1 < r.2.2

/-- The two boxes' cells. -/
def Box9 (F : CF) (t : Int × Int × Int) (b c : Nat) (W : World) : Prop :=
  (W.cell? ⟨b, 0, none⟩ = some (.slice F.ia F.m F.ic) ∧ W.cell? ⟨b, 1, none⟩ = some (.int .i64 F.z1) ∧ W.cell? ⟨b, 2, none⟩ = some (.slice (some ⟨F.g1, 0, none⟩) F.N1 F.N1) ∧ W.cell? ⟨b, 3, none⟩ = some (.slice F.ba F.nb F.bc) ∧ W.cell? ⟨b, 4, none⟩ = some (.int .i64 F.z2) ∧ W.cell? ⟨b, 5, none⟩ = some (.slice (some ⟨F.g2, 0, none⟩) F.N2 F.N2)) ∧
  W.cell? ⟨c, 0, none⟩ = some (.int .i64 t.1) ∧ W.cell? ⟨c, 1, none⟩ = some (.int .i64 t.2.1) ∧ W.cell? ⟨c, 2, none⟩ = some (.int .i64 t.2.2)

theorem Box9.of {F : CF} {t : Int × Int × Int} {b c ty : Nat} {W : World} (h : W.heap[b]? = some (.cells #[.slice F.ia F.m F.ic, .int .i64 F.z1, .slice (some ⟨F.g1, 0, none⟩) F.N1 F.N1, .slice F.ba F.nb F.bc, .int .i64 F.z2, .slice (some ⟨F.g2, 0, none⟩) F.N2 F.N2] 76 (0, 0)))
    (k : W.heap[c]? = some (.cells #[.int .i64 t.1, .int .i64 t.2.1, .int .i64 t.2.2] ty (0, 0))) : Box9 F t b c W :=
  ⟨⟨cell_of_row W b 0 _ _ _ h, cell_of_row W b 1 _ _ _ h, cell_of_row W b 2 _ _ _ h, cell_of_row W b 3 _ _ _ h, cell_of_row W b 4 _ _ _ h, cell_of_row W b 5 _ _ _ h⟩, cell_of_row W c 0 _ _ _ k, cell_of_row W c 1 _ _ _ k, cell_of_row W c 2 _ _ _ k⟩

/-- What every operation of the test leaves as it is. -/
def SBox (F : CF) (t : Int × Int × Int) (b c : Nat) (W1 w' : World) : Prop := Below W1.heap.size W1 w' ∧ Box9 F t b c w'

/-- k rounds are done: none of the first k is met. -/
def PAt (w0 : World) (k : Nat) (T : Int × Int × Int → Prop) (vw : List (Int × Int × Int)) (w : World) : Prop := Below w0.heap.size w0 w ∧ ∀ (j : Nat) (t : Int × Int × Int), j < k → vw[j]? = some t → ¬ T t

def PrecPost (uw ur vw vr : List (Int × Int × Int)) (w : World) (e : Ending) (w' : World) : Prop :=
  (∃ b : Bool, e = .returned (.bool b) ∧ (b = true ↔ Prec uw ur vw vr)) ∧ Below w.heap.size w w'

set_option maxHeartbeats 12800000 in
set_option maxRecDepth 100000 in
theorem precedes_any (B : Nat) (F : CF) (A : AC) (uw ur vw vr : List (Int × Int × Int)) (items arr1 bounds arr2 : List Int) (w : World) (hB : B ≤ w.heap.size) (hM : Hid (CFMem B F uw ur items arr1 bounds arr2 w)) (hA : Hid (ACMem B A vw vr w)) :
    Calls Try.prog 26 #[F.val, A.val] w fun e w' => PrecPost uw ur vw vr w e w' := by
  have hwl : (A.wl : Int) ≤ 1000000 := by have := hA.out.wl; have := hA.out.wr.len; omega
  have hrl : (A.rl : Int) ≤ 1000000 := by have := hA.out.rl; have := hA.out.rd.len; omega
  unfold CF.val AC.val
  go_enter Try.func26, Try.ntmps26
  go_wp2_with fail
  obtain ⟨w0, hw0⟩ : ∃ w0, (w.alloc (.cells #[.slice F.ia F.m F.ic, .int .i64 F.z1, .slice (some ⟨F.g1, 0, none⟩) F.N1 F.N1, .slice F.ba F.nb F.bc, .int .i64 F.z2, .slice (some ⟨F.g2, 0, none⟩) F.N2 F.N2] 76)).alloc (.cells #[.slice A.wa A.wl A.wc, .slice A.ra A.rl A.rc] 54) = w0 := ⟨_, rfl⟩
  have hT0 : Turned [] w w0 := by
    rw [← hw0]
    exact Turned.trans (Turned.of_grown (World.grownBy_alloc w _ none) [] (fun k hk => by cases hk)) (Turned.of_grown (World.grownBy_alloc _ _ none) [] (fun k hk => by cases hk)) (by simp)
  have x0 : w0.heap[w.heap.size]? = some (.cells #[.slice F.ia F.m F.ic, .int .i64 F.z1, .slice (some ⟨F.g1, 0, none⟩) F.N1 F.N1, .slice F.ba F.nb F.bc, .int .i64 F.z2, .slice (some ⟨F.g2, 0, none⟩) F.N2 F.N2] 76 (0, 0)) := by
    rw [← hw0, heap_alloc_old _ _ (by simp)]
    exact heap_alloc_new w _
  have x1 : w0.heap[w.heap.size + 1]? = some (.cells #[.slice A.wa A.wl A.wc, .slice A.ra A.rl A.rc] 54 (0, 0)) := by
    rw [← hw0]
    exact heap_two w _ _
  have s0 : w0.heap.size = w.heap.size + 2 := by rw [← hw0]; simp
  rw [hw0]
  have hB0 := hidden (hT0.below (Nat.le_refl _) (by simp))
  have X0 := hidden x0
  have X1 := hidden x1
  clear hw0 hT0 x0 x1
  have HM0 := hidden (hM.out.below (hB0.out.mono hB))
  have HA0 := hidden (hA.out.below (hB0.out.mono hB))
  go_loopw [12] (fun v wr => ∃ k : Nat, v = .int .i64 k ∧ k ≤ A.wl ∧ Hid (PAt w0 k (fun t => T1 uw t ∨ T2 ur t) vw wr)) (fun v _ => A.wl - (intOf v).toNat)
  case atStart => exact ⟨0, rfl, Nat.zero_le _, hidden ⟨Below.refl _ _, fun j t hj => by omega⟩⟩
  case round =>
    obtain ⟨k, rfl, hk, hI⟩ := hrel
    by_cases hlt : (k : Int) < A.wl
    case neg =>
      have hkk : k = A.wl := by omega
      have y1 := (hI.out.1.block (w.heap.size + 1) (by omega)).trans X1.out
      have y1a := cell_of_row wr (w.heap.size + 1) 1 _ _ _ y1
      simp only [List.getElem?_toArray, List.getElem?_cons_zero, List.getElem?_cons_succ] at y1a
      have DONE1 : Hid (∀ t ∈ vw, ¬ (T1 uw t ∨ T2 ur t)) := hidden fun t ht => by
        obtain ⟨j, hj⟩ := List.mem_iff_getElem?.1 ht
        exact hI.out.2 j t (by have := (List.getElem?_eq_some_iff.1 hj).1; have := hA.out.wl; omega) hj
      have S1 := hidden (show PAt w0 0 (T4 uw) vr wr from ⟨hI.out.1, fun j t hj => by omega⟩)
      clear hI y1
      go_wp2_with fail
      go_loopw [39] (fun v wx => ∃ k : Nat, v = .int .i64 k ∧ k ≤ A.rl ∧ Hid (PAt w0 k (T4 uw) vr wx)) (fun v _ => A.rl - (intOf v).toNat)
      case atStart => exact ⟨0, rfl, Nat.zero_le _, S1⟩
      case round =>
        clear S1 y1a hlt hk
        obtain ⟨k, rfl, hk, hI⟩ := hrel
        by_cases hlt : (k : Int) < A.rl
        case neg =>
          go_wp2_with fail
          go_returns
          refine ⟨⟨false, rfl, ⟨(fun h => by cases h), ?_⟩⟩, hB0.out.trans (hI.out.1.mono (by omega))⟩
          rintro (⟨t, ht, h1⟩ | ⟨r, hr, h1⟩)
          · exact absurd h1 (DONE1.out t ht)
          · obtain ⟨j, hj⟩ := List.mem_iff_getElem?.1 hr
            exact absurd h1 (hI.out.2 j r (by have := (List.getElem?_eq_some_iff.1 hj).1; have := hA.out.rl; omega) hj)
        obtain ⟨t, ht⟩ : ∃ t, vr[k]? = some t := ⟨_, List.getElem?_eq_getElem (by have := hA.out.rl; omega)⟩
        have hwa := HA0.out.rd.addr (by have := hA.out.rl; omega)
        have htok := hA.out.rok t (List.mem_of_getElem? ht)
        obtain ⟨c1, c2, c3⟩ := (HA0.out.rd.below (hI.out.1.mono (by omega))).cells k t ht
        obtain ⟨t1, t2, t3, t4⟩ := htok
        have b0 : (0 : Int) ≤ k := by omega
        have y0 := (hI.out.1.block w.heap.size (by omega)).trans X0.out
        rw [hwa]
        go_wp2_with fail
        obtain ⟨W1, hW1⟩ : ∃ W1, wr.alloc (.cells #[.int .i64 t.1, .int .i64 t.2.1, .int .i64 t.2.2] 56) = W1 := ⟨_, rfl⟩
        rw [hW1]
        have hs1 : W1.heap.size = wr.heap.size + 1 := by rw [← hW1]; simp
        have hb1 : Below wr.heap.size wr W1 := by rw [← hW1]; exact (Below.refl _ wr).alloc (Nat.le_refl _) _
        have z1 : W1.heap[wr.heap.size]? = some (.cells #[.int .i64 t.1, .int .i64 t.2.1, .int .i64 t.2.2] 56 (0, 0)) := by rw [← hW1]; exact heap_alloc_new wr _
        have hsw := hI.out.1.size
        have z0 := (hb1.block w.heap.size (by omega)).trans y0
        have hbw : Below w0.heap.size w0 W1 := hI.out.1.trans (hb1.mono hsw)
        have KEEP : Hid (∀ W', Below W1.heap.size W1 W' → Box9 F t w.heap.size wr.heap.size W' ∧ Below w0.heap.size w0 W' ∧ W1.heap.size ≤ W'.heap.size) := hidden fun W' hb => ⟨Box9.of ((hb.block _ (by omega)).trans z0) ((hb.block _ (by omega)).trans z1), hbw.trans (hb.mono (by omega)), hb.size⟩
        have FW : Hid (∀ W', Below W1.heap.size W1 W' → Calls Try.prog 30 #[.agg #[.slice F.ia F.m F.ic, .int .i64 F.z1, .slice (some ⟨F.g1, 0, none⟩) F.N1 F.N1, .slice F.ba F.nb F.bc, .int .i64 F.z2, .slice (some ⟨F.g2, 0, none⟩) F.N2 F.N2], .int .i64 t.1, .int .i64 t.2.1] W' fun e w' => ∃ m : Int, e = .returned (.int .i64 m) ∧ (m < t.2.2 ↔ T4 uw t) ∧ Below W1.heap.size W1 w' ∧ Box9 F t w.heap.size wr.heap.size w') := hidden fun W' hb => by
          obtain ⟨k1, k2, k3⟩ := KEEP.out W' hb
          refine (firstWriteIn_any B F uw ur items arr1 bounds arr2 t.1 t.2.1 W' (by omega) t1 (hidden (HM0.out.below (k2.mono (by omega))))).mono ?_
          rintro e w' ⟨⟨m, rfl, hm⟩, hb'⟩
          have hb2 : Below W1.heap.size W1 w' := hb.trans (hb'.mono k3)
          exact ⟨m, rfl, hm t.2.2 (by omega), hb2, (KEEP.out w' hb2).1⟩
        have HBW := hidden hbw
        have HT := hidden ht
        clear hW1 hb1 z0 z1 y0 c1 c2 c3 hbw hwa ht
        refine wp_region_noPanic ?_
        refine wp_region_held_drew (S := SBox F t w.heap.size wr.heap.size W1) (by kernel_rfl) ⟨below_drewN (Below.refl _ _) 1, (KEEP.out _ (below_drewN (Below.refl _ _) 1)).1⟩ (fun hHeld => ?_)
        refine wpAnyH_take (i := 0) (v := (.agg #[.slice F.ia F.m F.ic, .int .i64 F.z1, .slice (some ⟨F.g1, 0, none⟩) F.N1 F.N1, .slice F.ba F.nb F.bc, .int .i64 F.z2, .slice (some ⟨F.g2, 0, none⟩) F.N2 F.N2])) rfl (by kernel_rfl) (by kernel_rfl) (by kernel_rfl) (fun _ _ _ h => h) (Or.inl ⟨by rfl, ?_⟩) hHeld ?_
        · rintro w ⟨_, ⟨r0, r1, r2, r3, r4, r5⟩, r6, r7, r8⟩
          go_simp
        try simp only [Act.put, List.getElem_toArray, List.getElem_cons_succ, List.getElem_cons_zero, List.setIfInBounds_toArray, List.set_cons_zero, List.set_cons_succ]
        refine wpAnyH_take (i := 1) (v := (.pointer (some ⟨wr.heap.size, 0, none⟩))) rfl (by kernel_rfl) (by kernel_rfl) (by kernel_rfl) (fun _ _ _ h => h) (Or.inl ⟨by rfl, ?_⟩) hHeld ?_
        · rintro w ⟨_, ⟨r0, r1, r2, r3, r4, r5⟩, r6, r7, r8⟩
          go_simp
        try simp only [Act.put, List.getElem_toArray, List.getElem_cons_succ, List.getElem_cons_zero, List.setIfInBounds_toArray, List.set_cons_zero, List.set_cons_succ]
        refine wpAnyH_take (i := 2) (v := (.int .i64 t.1)) rfl (by kernel_rfl) (by kernel_rfl) (by kernel_rfl) (fun _ _ _ h => h) (Or.inl ⟨by rfl, ?_⟩) hHeld ?_
        · rintro w ⟨_, ⟨r0, r1, r2, r3, r4, r5⟩, r6, r7, r8⟩
          go_simp
        try simp only [Act.put, List.getElem_toArray, List.getElem_cons_succ, List.getElem_cons_zero, List.setIfInBounds_toArray, List.set_cons_zero, List.set_cons_succ]
        refine wpAnyH_take (i := 3) (v := (.pointer (some ⟨wr.heap.size, 1, none⟩))) rfl (by kernel_rfl) (by kernel_rfl) (by kernel_rfl) (fun _ _ _ h => h) (Or.inl ⟨by rfl, ?_⟩) hHeld ?_
        · rintro w ⟨_, ⟨r0, r1, r2, r3, r4, r5⟩, r6, r7, r8⟩
          go_simp
        try simp only [Act.put, List.getElem_toArray, List.getElem_cons_succ, List.getElem_cons_zero, List.setIfInBounds_toArray, List.set_cons_zero, List.set_cons_succ]
        refine wpAnyH_take (i := 4) (v := (.int .i64 t.2.1)) rfl (by kernel_rfl) (by kernel_rfl) (by kernel_rfl) (fun _ _ _ h => h) (Or.inl ⟨by rfl, ?_⟩) hHeld ?_
        · rintro w ⟨_, ⟨r0, r1, r2, r3, r4, r5⟩, r6, r7, r8⟩
          go_simp
        try simp only [Act.put, List.getElem_toArray, List.getElem_cons_succ, List.getElem_cons_zero, List.setIfInBounds_toArray, List.set_cons_zero, List.set_cons_succ]
        refine wpAnyH_take (i := 6) (v := (.pointer (some ⟨wr.heap.size, 2, none⟩))) rfl (by kernel_rfl) (by kernel_rfl) (by kernel_rfl) (fun _ _ _ h => h) (Or.inl ⟨by rfl, ?_⟩) hHeld ?_
        · rintro w ⟨_, ⟨r0, r1, r2, r3, r4, r5⟩, r6, r7, r8⟩
          go_simp
        try simp only [Act.put, List.getElem_toArray, List.getElem_cons_succ, List.getElem_cons_zero, List.setIfInBounds_toArray, List.set_cons_zero, List.set_cons_succ]
        refine wpAnyH_take (i := 7) (v := (.int .i64 t.2.2)) rfl (by kernel_rfl) (by kernel_rfl) (by kernel_rfl) (fun _ _ _ h => h) (Or.inl ⟨by rfl, ?_⟩) hHeld ?_
        · rintro w ⟨_, ⟨r0, r1, r2, r3, r4, r5⟩, r6, r7, r8⟩
          go_simp
        try simp only [Act.put, List.getElem_toArray, List.getElem_cons_succ, List.getElem_cons_zero, List.setIfInBounds_toArray, List.set_cons_zero, List.set_cons_succ]
        refine wpAnyH_ready (rs := [5]) (by kernel_rfl) (by simp) (AllReadyH.cons rfl (fun K hK => ?_) AllReadyH.nil)
        go_simp
        refine (FW.out _ hHeld.1).mono ?_
        rintro e w2 ⟨m, rfl, hm, hb2, hx2⟩
        dsimp only
        refine hK.out _ _ ⟨hb2, hx2⟩ (fun hHeld2 => ?_)
        clear hK hHeld hb2 hx2
        have hHeld := hHeld2
        clear hHeld2
        try simp only [Act.put, List.getElem_toArray, List.getElem_cons_succ, List.getElem_cons_zero, List.setIfInBounds_toArray, List.set_cons_zero, List.set_cons_succ]
        by_cases hT4 : T4 uw t
        · have hm' : m < t.2.2 := hm.2 hT4
          clear hm
          refine wpAnyH_take (i := 8) (v := (.bool true)) rfl (by kernel_rfl) (by kernel_rfl) (by kernel_rfl) (fun _ _ _ h => h) (Or.inl ⟨by rfl, ?_⟩) hHeld ?_
          · rintro w ⟨_, ⟨r0, r1, r2, r3, r4, r5⟩, r6, r7, r8⟩
            go_simp
          try simp only [Act.put, List.getElem_toArray, List.getElem_cons_succ, List.getElem_cons_zero, List.setIfInBounds_toArray, List.set_cons_zero, List.set_cons_succ]
          refine wpAnyH_done (by kernel_rfl) ?_ _
          refine NoPanic.normal ?_
          go_wp2_with fail
          go_returns
          exact ⟨⟨true, rfl, fun _ => .inr ⟨t, List.mem_of_getElem? HT.out, hT4⟩, fun _ => rfl⟩, hB0.out.trans ((HBW.out.trans (hHeld.1.mono (by omega))).mono (by omega))⟩
        · have hm' : t.2.2 ≤ m := by
            rcases Int.lt_or_le m t.2.2 with h | h
            · exact absurd (hm.1 h) hT4
            · exact h
          clear hm
          refine wpAnyH_take (i := 8) (v := (.bool false)) rfl (by kernel_rfl) (by kernel_rfl) (by kernel_rfl) (fun _ _ _ h => h) (Or.inl ⟨by rfl, ?_⟩) hHeld ?_
          · rintro w ⟨_, ⟨r0, r1, r2, r3, r4, r5⟩, r6, r7, r8⟩
            go_simp
          try simp only [Act.put, List.getElem_toArray, List.getElem_cons_succ, List.getElem_cons_zero, List.setIfInBounds_toArray, List.set_cons_zero, List.set_cons_succ]
          refine wpAnyH_done (by kernel_rfl) ?_ _
          refine NoPanic.normal ?_
          have NEXT : Hid (PAt w0 (k + 1) (T4 uw) vr w2) := hidden ⟨HBW.out.trans (hHeld.1.mono (by omega)), fun j t' hj ht' => by
            by_cases hjk : j = k
            · subst hjk
              rw [HT.out] at ht'
              cases ht'
              exact hT4
            · exact hI.out.2 j t' (by omega) ht'⟩
          clear hHeld KEEP FW
          go_wp2_with fail
          exact ⟨⟨k + 1, by go_num, by omega, NEXT⟩, by simp [intOf]; omega⟩
    obtain ⟨t, ht⟩ : ∃ t, vw[k]? = some t := ⟨_, List.getElem?_eq_getElem (by have := hA.out.wl; omega)⟩
    have hwa := HA0.out.wr.addr (by have := hA.out.wl; omega)
    have htok := hA.out.wok t (List.mem_of_getElem? ht)
    obtain ⟨c1, c2, c3⟩ := (HA0.out.wr.below (hI.out.1.mono (by omega))).cells k t ht
    obtain ⟨t1, t2, t3, t4⟩ := htok
    have b0 : (0 : Int) ≤ k := by omega
    have y0 := (hI.out.1.block w.heap.size (by omega)).trans X0.out
    have y1 := (hI.out.1.block (w.heap.size + 1) (by omega)).trans X1.out
    rw [hwa]
    go_wp2_with fail
    obtain ⟨W1, hW1⟩ : ∃ W1, wr.alloc (.cells #[.int .i64 t.1, .int .i64 t.2.1, .int .i64 t.2.2] 64) = W1 := ⟨_, rfl⟩
    rw [hW1]
    have hs1 : W1.heap.size = wr.heap.size + 1 := by rw [← hW1]; simp
    have hb1 : Below wr.heap.size wr W1 := by rw [← hW1]; exact (Below.refl _ wr).alloc (Nat.le_refl _) _
    have z1 : W1.heap[wr.heap.size]? = some (.cells #[.int .i64 t.1, .int .i64 t.2.1, .int .i64 t.2.2] 64 (0, 0)) := by rw [← hW1]; exact heap_alloc_new wr _
    have hsw := hI.out.1.size
    have z0 := (hb1.block w.heap.size (by omega)).trans y0
    have hbw : Below w0.heap.size w0 W1 := hI.out.1.trans (hb1.mono hsw)
    have KEEP : Hid (∀ W', Below W1.heap.size W1 W' → Box9 F t w.heap.size wr.heap.size W' ∧ Below w0.heap.size w0 W' ∧ W1.heap.size ≤ W'.heap.size) := hidden fun W' hb => ⟨Box9.of ((hb.block _ (by omega)).trans z0) ((hb.block _ (by omega)).trans z1), hbw.trans (hb.mono (by omega)), hb.size⟩
    have FW : Hid (∀ W', Below W1.heap.size W1 W' → Calls Try.prog 30 #[.agg #[.slice F.ia F.m F.ic, .int .i64 F.z1, .slice (some ⟨F.g1, 0, none⟩) F.N1 F.N1, .slice F.ba F.nb F.bc, .int .i64 F.z2, .slice (some ⟨F.g2, 0, none⟩) F.N2 F.N2], .int .i64 t.1, .int .i64 (t.1 + 1)] W' fun e w' => ∃ m : Int, e = .returned (.int .i64 m) ∧ (m < t.2.2 ↔ T1 uw t) ∧ Below W1.heap.size W1 w' ∧ Box9 F t w.heap.size wr.heap.size w') := hidden fun W' hb => by
      obtain ⟨k1, k2, k3⟩ := KEEP.out W' hb
      refine (firstWriteIn_any B F uw ur items arr1 bounds arr2 t.1 (t.1 + 1) W' (by omega) t1 (hidden (HM0.out.below (k2.mono (by omega))))).mono ?_
      rintro e w' ⟨⟨m, rfl, hm⟩, hb'⟩
      have hb2 : Below W1.heap.size W1 w' := hb.trans (hb'.mono k3)
      refine ⟨m, rfl, ?_, hb2, (KEEP.out w' hb2).1⟩
      rw [hm t.2.2 (by omega)]
      constructor
      · rintro ⟨x, hx, h1, h2, h3⟩; exact ⟨x, hx, by omega, h3⟩
      · rintro ⟨x, hx, h1, h3⟩; exact ⟨x, hx, by omega, by omega, h3⟩
    have FR : Hid (∀ W', Below W1.heap.size W1 W' → Calls Try.prog 31 #[.agg #[.slice F.ia F.m F.ic, .int .i64 F.z1, .slice (some ⟨F.g1, 0, none⟩) F.N1 F.N1, .slice F.ba F.nb F.bc, .int .i64 F.z2, .slice (some ⟨F.g2, 0, none⟩) F.N2 F.N2], .int .i64 t.1] W' fun e w' => ∃ m : Int, e = .returned (.int .i64 m) ∧ (m < t.2.2 ↔ T2 ur t) ∧ Below W1.heap.size W1 w' ∧ Box9 F t w.heap.size wr.heap.size w') := hidden fun W' hb => by
      obtain ⟨k1, k2, k3⟩ := KEEP.out W' hb
      refine (firstReadOf_any B F uw ur items arr1 bounds arr2 t.1 W' (by omega) (hidden (HM0.out.below (k2.mono (by omega))))).mono ?_
      rintro e w' ⟨⟨m, rfl, hm⟩, hb'⟩
      have hb2 : Below W1.heap.size W1 w' := hb.trans (hb'.mono k3)
      exact ⟨m, rfl, hm t.2.2 (by omega), hb2, (KEEP.out w' hb2).1⟩
    obtain ⟨⟨q0, q1, q2, q3, q4, q5⟩, q6, q7, q8⟩ := (KEEP.out W1 (Below.refl _ _)).1
    have HBW := hidden hbw
    have ht15 : t.1 + 1 ≤ 1000001 := by omega
    have HT := hidden ht
    clear hW1 hb1 z0 z1 y0 y1 c1 c2 c3 hbw hwa ht
    clear q0 q1 q2 q3 q4 q5 q6 q7 q8
    have hw1 : IntKind.i64.wrap (t.1 + 1) = t.1 + 1 := by simp [IntKind.wrap, IntKind.bits, IntKind.signed]; omega
    refine wp_region_noPanic ?_
    refine wp_region_held_drew (S := SBox F t w.heap.size wr.heap.size W1) (by kernel_rfl) ⟨below_drewN (Below.refl _ _) 1, (KEEP.out _ (below_drewN (Below.refl _ _) 1)).1⟩ (fun hHeld => ?_)
    refine wpAnyH_take (i := 0) (v := (.agg #[.slice F.ia F.m F.ic, .int .i64 F.z1, .slice (some ⟨F.g1, 0, none⟩) F.N1 F.N1, .slice F.ba F.nb F.bc, .int .i64 F.z2, .slice (some ⟨F.g2, 0, none⟩) F.N2 F.N2])) rfl (by kernel_rfl) (by kernel_rfl) (by kernel_rfl) (fun _ _ _ h => h) (Or.inl ⟨by rfl, ?_⟩) hHeld ?_
    · rintro w ⟨_, ⟨r0, r1, r2, r3, r4, r5⟩, r6, r7, r8⟩
      go_simp
    try simp only [Act.put, List.getElem_toArray, List.getElem_cons_succ, List.getElem_cons_zero, List.setIfInBounds_toArray, List.set_cons_zero, List.set_cons_succ]
    refine wpAnyH_take (i := 1) (v := (.pointer (some ⟨wr.heap.size, 0, none⟩))) rfl (by kernel_rfl) (by kernel_rfl) (by kernel_rfl) (fun _ _ _ h => h) (Or.inl ⟨by rfl, ?_⟩) hHeld ?_
    · rintro w ⟨_, ⟨r0, r1, r2, r3, r4, r5⟩, r6, r7, r8⟩
      go_simp
    try simp only [Act.put, List.getElem_toArray, List.getElem_cons_succ, List.getElem_cons_zero, List.setIfInBounds_toArray, List.set_cons_zero, List.set_cons_succ]
    refine wpAnyH_take (i := 2) (v := (.int .i64 t.1)) rfl (by kernel_rfl) (by kernel_rfl) (by kernel_rfl) (fun _ _ _ h => h) (Or.inl ⟨by rfl, ?_⟩) hHeld ?_
    · rintro w ⟨_, ⟨r0, r1, r2, r3, r4, r5⟩, r6, r7, r8⟩
      go_simp
    try simp only [Act.put, List.getElem_toArray, List.getElem_cons_succ, List.getElem_cons_zero, List.setIfInBounds_toArray, List.set_cons_zero, List.set_cons_succ]
    refine wpAnyH_take (i := 3) (v := (.pointer (some ⟨wr.heap.size, 0, none⟩))) rfl (by kernel_rfl) (by kernel_rfl) (by kernel_rfl) (fun _ _ _ h => h) (Or.inl ⟨by rfl, ?_⟩) hHeld ?_
    · rintro w ⟨_, ⟨r0, r1, r2, r3, r4, r5⟩, r6, r7, r8⟩
      go_simp
    try simp only [Act.put, List.getElem_toArray, List.getElem_cons_succ, List.getElem_cons_zero, List.setIfInBounds_toArray, List.set_cons_zero, List.set_cons_succ]
    refine wpAnyH_take (i := 4) (v := (.int .i64 t.1)) rfl (by kernel_rfl) (by kernel_rfl) (by kernel_rfl) (fun _ _ _ h => h) (Or.inl ⟨by rfl, ?_⟩) hHeld ?_
    · rintro w ⟨_, ⟨r0, r1, r2, r3, r4, r5⟩, r6, r7, r8⟩
      go_simp
    try simp only [Act.put, List.getElem_toArray, List.getElem_cons_succ, List.getElem_cons_zero, List.setIfInBounds_toArray, List.set_cons_zero, List.set_cons_succ]
    refine wpAnyH_take (i := 5) (v := (.int .i64 (t.1 + 1))) rfl (by kernel_rfl) (by kernel_rfl) (by kernel_rfl) (fun _ _ _ h => h) (Or.inl ⟨by rfl, ?_⟩) hHeld ?_
    · rintro w ⟨_, ⟨r0, r1, r2, r3, r4, r5⟩, r6, r7, r8⟩
      go_simp
    try simp only [Act.put, List.getElem_toArray, List.getElem_cons_succ, List.getElem_cons_zero, List.setIfInBounds_toArray, List.set_cons_zero, List.set_cons_succ]
    refine wpAnyH_take (i := 7) (v := (.pointer (some ⟨wr.heap.size, 2, none⟩))) rfl (by kernel_rfl) (by kernel_rfl) (by kernel_rfl) (fun _ _ _ h => h) (Or.inl ⟨by rfl, ?_⟩) hHeld ?_
    · rintro w ⟨_, ⟨r0, r1, r2, r3, r4, r5⟩, r6, r7, r8⟩
      go_simp
    try simp only [Act.put, List.getElem_toArray, List.getElem_cons_succ, List.getElem_cons_zero, List.setIfInBounds_toArray, List.set_cons_zero, List.set_cons_succ]
    refine wpAnyH_take (i := 8) (v := (.int .i64 t.2.2)) rfl (by kernel_rfl) (by kernel_rfl) (by kernel_rfl) (fun _ _ _ h => h) (Or.inl ⟨by rfl, ?_⟩) hHeld ?_
    · rintro w ⟨_, ⟨r0, r1, r2, r3, r4, r5⟩, r6, r7, r8⟩
      go_simp
    try simp only [Act.put, List.getElem_toArray, List.getElem_cons_succ, List.getElem_cons_zero, List.setIfInBounds_toArray, List.set_cons_zero, List.set_cons_succ]
    refine wpAnyH_ready (rs := [6]) (by kernel_rfl) (by simp) (AllReadyH.cons rfl (fun K hK => ?_) AllReadyH.nil)
    go_simp
    refine (FW.out _ hHeld.1).mono ?_
    rintro e w2 ⟨m, rfl, hm, hb2, hx2⟩
    dsimp only
    refine hK.out _ _ ⟨hb2, hx2⟩ (fun hHeld2 => ?_)
    clear hK hHeld hb2 hx2
    have hHeld := hHeld2
    clear hHeld2
    try simp only [Act.put, List.getElem_toArray, List.getElem_cons_succ, List.getElem_cons_zero, List.setIfInBounds_toArray, List.set_cons_zero, List.set_cons_succ]
    by_cases hT1 : T1 uw t
    · have hm' : m < t.2.2 := hm.2 hT1
      clear hm
      refine wpAnyH_take (i := 9) (v := (.bool true)) rfl (by kernel_rfl) (by kernel_rfl) (by kernel_rfl) (fun _ _ _ h => h) (Or.inl ⟨by rfl, ?_⟩) hHeld ?_
      · rintro w ⟨_, ⟨r0, r1, r2, r3, r4, r5⟩, r6, r7, r8⟩
        go_simp
      try simp only [Act.put, List.getElem_toArray, List.getElem_cons_succ, List.getElem_cons_zero, List.setIfInBounds_toArray, List.set_cons_zero, List.set_cons_succ]
      refine wpAnyH_take (i := 10) (v := (.bool true)) rfl (by kernel_rfl) (by kernel_rfl) (by kernel_rfl) (fun _ _ _ h => h) (Or.inl ⟨by rfl, ?_⟩) hHeld ?_
      · rintro w ⟨_, ⟨r0, r1, r2, r3, r4, r5⟩, r6, r7, r8⟩
        go_simp
      try simp only [Act.put, List.getElem_toArray, List.getElem_cons_succ, List.getElem_cons_zero, List.setIfInBounds_toArray, List.set_cons_zero, List.set_cons_succ]
      refine wpAnyH_take (i := 11) (v := undef) rfl (by kernel_rfl) (by kernel_rfl) (by kernel_rfl) (fun _ _ _ h => h) (Or.inr ⟨by rfl, rfl⟩) hHeld ?_
      try simp only [Act.put, List.getElem_toArray, List.getElem_cons_succ, List.getElem_cons_zero, List.setIfInBounds_toArray, List.set_cons_zero, List.set_cons_succ]
      refine wpAnyH_take (i := 12) (v := undef) rfl (by kernel_rfl) (by kernel_rfl) (by kernel_rfl) (fun _ _ _ h => h) (Or.inr ⟨by rfl, rfl⟩) hHeld ?_
      try simp only [Act.put, List.getElem_toArray, List.getElem_cons_succ, List.getElem_cons_zero, List.setIfInBounds_toArray, List.set_cons_zero, List.set_cons_succ]
      refine wpAnyH_take (i := 13) (v := undef) rfl (by kernel_rfl) (by kernel_rfl) (by kernel_rfl) (fun _ _ _ h => h) (Or.inr ⟨by rfl, rfl⟩) hHeld ?_
      try simp only [Act.put, List.getElem_toArray, List.getElem_cons_succ, List.getElem_cons_zero, List.setIfInBounds_toArray, List.set_cons_zero, List.set_cons_succ]
      refine wpAnyH_take (i := 14) (v := undef) rfl (by kernel_rfl) (by kernel_rfl) (by kernel_rfl) (fun _ _ _ h => h) (Or.inr ⟨by rfl, rfl⟩) hHeld ?_
      try simp only [Act.put, List.getElem_toArray, List.getElem_cons_succ, List.getElem_cons_zero, List.setIfInBounds_toArray, List.set_cons_zero, List.set_cons_succ]
      refine wpAnyH_take (i := 15) (v := undef) rfl (by kernel_rfl) (by kernel_rfl) (by kernel_rfl) (fun _ _ _ h => h) (Or.inr ⟨by rfl, rfl⟩) hHeld ?_
      try simp only [Act.put, List.getElem_toArray, List.getElem_cons_succ, List.getElem_cons_zero, List.setIfInBounds_toArray, List.set_cons_zero, List.set_cons_succ]
      refine wpAnyH_take (i := 16) (v := undef) rfl (by kernel_rfl) (by kernel_rfl) (by kernel_rfl) (fun _ _ _ h => h) (Or.inr ⟨by rfl, rfl⟩) hHeld ?_
      try simp only [Act.put, List.getElem_toArray, List.getElem_cons_succ, List.getElem_cons_zero, List.setIfInBounds_toArray, List.set_cons_zero, List.set_cons_succ]
      refine wpAnyH_take (i := 17) (v := undef) rfl (by kernel_rfl) (by kernel_rfl) (by kernel_rfl) (fun _ _ _ h => h) (Or.inr ⟨by rfl, rfl⟩) hHeld ?_
      try simp only [Act.put, List.getElem_toArray, List.getElem_cons_succ, List.getElem_cons_zero, List.setIfInBounds_toArray, List.set_cons_zero, List.set_cons_succ]
      refine wpAnyH_take (i := 18) (v := (.bool true)) rfl (by kernel_rfl) (by kernel_rfl) (by kernel_rfl) (fun _ _ _ h => h) (Or.inl ⟨by rfl, ?_⟩) hHeld ?_
      · rintro w ⟨_, ⟨r0, r1, r2, r3, r4, r5⟩, r6, r7, r8⟩
        go_simp
      try simp only [Act.put, List.getElem_toArray, List.getElem_cons_succ, List.getElem_cons_zero, List.setIfInBounds_toArray, List.set_cons_zero, List.set_cons_succ]
      refine wpAnyH_done (by kernel_rfl) ?_ _
      refine NoPanic.normal ?_
      go_wp2_with fail
      go_returns
      exact ⟨⟨true, rfl, fun _ => .inl ⟨t, List.mem_of_getElem? HT.out, .inl hT1⟩, fun _ => rfl⟩, hB0.out.trans ((HBW.out.trans (hHeld.1.mono (by omega))).mono (by omega))⟩
    · have hm' : t.2.2 ≤ m := by
        rcases Int.lt_or_le m t.2.2 with h | h
        · exact absurd (hm.1 h) hT1
        · exact h
      clear hm
      refine wpAnyH_take (i := 9) (v := (.bool false)) rfl (by kernel_rfl) (by kernel_rfl) (by kernel_rfl) (fun _ _ _ h => h) (Or.inl ⟨by rfl, ?_⟩) hHeld ?_
      · rintro w ⟨_, ⟨r0, r1, r2, r3, r4, r5⟩, r6, r7, r8⟩
        go_simp
      try simp only [Act.put, List.getElem_toArray, List.getElem_cons_succ, List.getElem_cons_zero, List.setIfInBounds_toArray, List.set_cons_zero, List.set_cons_succ]
      refine wpAnyH_take (i := 10) (v := (.bool false)) rfl (by kernel_rfl) (by kernel_rfl) (by kernel_rfl) (fun _ _ _ h => h) (Or.inl ⟨by rfl, ?_⟩) hHeld ?_
      · rintro w ⟨_, ⟨r0, r1, r2, r3, r4, r5⟩, r6, r7, r8⟩
        go_simp
      try simp only [Act.put, List.getElem_toArray, List.getElem_cons_succ, List.getElem_cons_zero, List.setIfInBounds_toArray, List.set_cons_zero, List.set_cons_succ]
      refine wpAnyH_take (i := 11) (v := (.agg #[.slice F.ia F.m F.ic, .int .i64 F.z1, .slice (some ⟨F.g1, 0, none⟩) F.N1 F.N1, .slice F.ba F.nb F.bc, .int .i64 F.z2, .slice (some ⟨F.g2, 0, none⟩) F.N2 F.N2])) rfl (by kernel_rfl) (by kernel_rfl) (by kernel_rfl) (fun _ _ _ h => h) (Or.inl ⟨by rfl, ?_⟩) hHeld ?_
      · rintro w ⟨_, ⟨r0, r1, r2, r3, r4, r5⟩, r6, r7, r8⟩
        go_simp
      try simp only [Act.put, List.getElem_toArray, List.getElem_cons_succ, List.getElem_cons_zero, List.setIfInBounds_toArray, List.set_cons_zero, List.set_cons_succ]
      refine wpAnyH_take (i := 12) (v := (.pointer (some ⟨wr.heap.size, 0, none⟩))) rfl (by kernel_rfl) (by kernel_rfl) (by kernel_rfl) (fun _ _ _ h => h) (Or.inl ⟨by rfl, ?_⟩) hHeld ?_
      · rintro w ⟨_, ⟨r0, r1, r2, r3, r4, r5⟩, r6, r7, r8⟩
        go_simp
      try simp only [Act.put, List.getElem_toArray, List.getElem_cons_succ, List.getElem_cons_zero, List.setIfInBounds_toArray, List.set_cons_zero, List.set_cons_succ]
      refine wpAnyH_take (i := 13) (v := (.int .i64 t.1)) rfl (by kernel_rfl) (by kernel_rfl) (by kernel_rfl) (fun _ _ _ h => h) (Or.inl ⟨by rfl, ?_⟩) hHeld ?_
      · rintro w ⟨_, ⟨r0, r1, r2, r3, r4, r5⟩, r6, r7, r8⟩
        go_simp
      try simp only [Act.put, List.getElem_toArray, List.getElem_cons_succ, List.getElem_cons_zero, List.setIfInBounds_toArray, List.set_cons_zero, List.set_cons_succ]
      refine wpAnyH_take (i := 15) (v := (.pointer (some ⟨wr.heap.size, 2, none⟩))) rfl (by kernel_rfl) (by kernel_rfl) (by kernel_rfl) (fun _ _ _ h => h) (Or.inl ⟨by rfl, ?_⟩) hHeld ?_
      · rintro w ⟨_, ⟨r0, r1, r2, r3, r4, r5⟩, r6, r7, r8⟩
        go_simp
      try simp only [Act.put, List.getElem_toArray, List.getElem_cons_succ, List.getElem_cons_zero, List.setIfInBounds_toArray, List.set_cons_zero, List.set_cons_succ]
      refine wpAnyH_take (i := 16) (v := (.int .i64 t.2.2)) rfl (by kernel_rfl) (by kernel_rfl) (by kernel_rfl) (fun _ _ _ h => h) (Or.inl ⟨by rfl, ?_⟩) hHeld ?_
      · rintro w ⟨_, ⟨r0, r1, r2, r3, r4, r5⟩, r6, r7, r8⟩
        go_simp
      try simp only [Act.put, List.getElem_toArray, List.getElem_cons_succ, List.getElem_cons_zero, List.setIfInBounds_toArray, List.set_cons_zero, List.set_cons_succ]
      refine wpAnyH_ready (rs := [14]) (by kernel_rfl) (by simp) (AllReadyH.cons rfl (fun K hK => ?_) AllReadyH.nil)
      go_simp
      refine (FR.out _ hHeld.1).mono ?_
      rintro e w3 ⟨m2, rfl, hm2, hb3, hx3⟩
      dsimp only
      refine hK.out _ _ ⟨hb3, hx3⟩ (fun hHeld2 => ?_)
      clear hK hHeld hb3 hx3
      have hHeld := hHeld2
      clear hHeld2
      try simp only [Act.put, List.getElem_toArray, List.getElem_cons_succ, List.getElem_cons_zero, List.setIfInBounds_toArray, List.set_cons_zero, List.set_cons_succ]
      by_cases hT2 : T2 ur t
      · have hm2' : m2 < t.2.2 := hm2.2 hT2
        clear hm2
        refine wpAnyH_take (i := 17) (v := (.bool true)) rfl (by kernel_rfl) (by kernel_rfl) (by kernel_rfl) (fun _ _ _ h => h) (Or.inl ⟨by rfl, ?_⟩) hHeld ?_
        · rintro w ⟨_, ⟨r0, r1, r2, r3, r4, r5⟩, r6, r7, r8⟩
          go_simp
        try simp only [Act.put, List.getElem_toArray, List.getElem_cons_succ, List.getElem_cons_zero, List.setIfInBounds_toArray, List.set_cons_zero, List.set_cons_succ]
        refine wpAnyH_take (i := 18) (v := (.bool true)) rfl (by kernel_rfl) (by kernel_rfl) (by kernel_rfl) (fun _ _ _ h => h) (Or.inl ⟨by rfl, ?_⟩) hHeld ?_
        · rintro w ⟨_, ⟨r0, r1, r2, r3, r4, r5⟩, r6, r7, r8⟩
          go_simp
        try simp only [Act.put, List.getElem_toArray, List.getElem_cons_succ, List.getElem_cons_zero, List.setIfInBounds_toArray, List.set_cons_zero, List.set_cons_succ]
        refine wpAnyH_done (by kernel_rfl) ?_ _
        refine NoPanic.normal ?_
        go_wp2_with fail
        go_returns
        exact ⟨⟨true, rfl, fun _ => .inl ⟨t, List.mem_of_getElem? HT.out, .inr hT2⟩, fun _ => rfl⟩, hB0.out.trans ((HBW.out.trans (hHeld.1.mono (by omega))).mono (by omega))⟩
      · have hm2' : t.2.2 ≤ m2 := by
          rcases Int.lt_or_le m2 t.2.2 with h | h
          · exact absurd (hm2.1 h) hT2
          · exact h
        clear hm2
        refine wpAnyH_take (i := 17) (v := (.bool false)) rfl (by kernel_rfl) (by kernel_rfl) (by kernel_rfl) (fun _ _ _ h => h) (Or.inl ⟨by rfl, ?_⟩) hHeld ?_
        · rintro w ⟨_, ⟨r0, r1, r2, r3, r4, r5⟩, r6, r7, r8⟩
          go_simp
        try simp only [Act.put, List.getElem_toArray, List.getElem_cons_succ, List.getElem_cons_zero, List.setIfInBounds_toArray, List.set_cons_zero, List.set_cons_succ]
        refine wpAnyH_take (i := 18) (v := (.bool false)) rfl (by kernel_rfl) (by kernel_rfl) (by kernel_rfl) (fun _ _ _ h => h) (Or.inl ⟨by rfl, ?_⟩) hHeld ?_
        · rintro w ⟨_, ⟨r0, r1, r2, r3, r4, r5⟩, r6, r7, r8⟩
          go_simp
        try simp only [Act.put, List.getElem_toArray, List.getElem_cons_succ, List.getElem_cons_zero, List.setIfInBounds_toArray, List.set_cons_zero, List.set_cons_succ]
        refine wpAnyH_done (by kernel_rfl) ?_ _
        refine NoPanic.normal ?_
        have NEXT : Hid (PAt w0 (k + 1) (fun t => T1 uw t ∨ T2 ur t) vw w3) := hidden ⟨HBW.out.trans (hHeld.1.mono (by omega)), fun j t' hj ht' => by
          by_cases hjk : j = k
          · subst hjk
            rw [HT.out] at ht'
            cases ht'
            exact fun h => h.elim hT1 hT2
          · exact hI.out.2 j t' (by omega) ht'⟩
        clear hHeld KEEP FW FR
        go_wp2_with fail
        exact ⟨⟨k + 1, by go_num, by omega, NEXT⟩, by simp [intOf]; omega⟩

end Go.Proofs.Qxb6612201a
