/-
  WALK: 'lowestSuccessor' (25).
-/
import Derived.Test.Qxb6612201aPrecW
namespace Go.Proofs.Qxb6612201a
open Go.RowKit Go.Shelf
set_option linter.unusedVariables false
set_option linter.unusedSimpArgs false

/-- The table of accesses: acc[v] at the cells 2 v, 2 v + 1 of block bA. -/
structure AccTab (B : Nat) (w : World) (bx bA n : Nat) (wr rd : Nat → List (Int × Int × Int)) : Prop where
  at_ : w.heap[bx]? = some (.cells #[.slice (some ⟨bA, 0, none⟩) n n] 46 (0, 0))
  lt : bx < B ∧ bA < B
  row : ∀ v, v < n → ∃ A : AC, w.cell? ⟨bA, v * 2, none⟩ = some (.slice A.wa A.wl A.wc) ∧ w.cell? ⟨bA, v * 2 + 1, none⟩ = some (.slice A.ra A.rl A.rc) ∧ ACMem B A (wr v) (rd v) w

theorem AccTab.below {B : Nat} {w w' : World} {bx bA n : Nat} {wr rd : Nat → List (Int × Int × Int)} (h : AccTab B w bx bA n wr rd) (hb : Below B w w') : AccTab B w' bx bA n wr rd :=
  ⟨(hb.block bx h.lt.1).trans h.at_, h.lt, fun v hv => by
    obtain ⟨A, h1, h2, h3⟩ := h.row v hv
    exact ⟨A, (hb.cell (p := ⟨bA, v * 2, none⟩) h.lt.2).trans h1, (hb.cell (p := ⟨bA, v * 2 + 1, none⟩) h.lt.2).trans h2, h3.below hb⟩⟩

/-- The answer: the first of the level that u precedes; -1 where there is none. -/
def LowSPost (uw ur : List (Int × Int × Int)) (wr rd : Nat → List (Int × Int × Int)) (lv : List Nat) (w : World) (e : Ending) (w' : World) : Prop :=
  ((∃ (i v : Nat), lv[i]? = some v ∧ e = .returned (.int .i64 v) ∧ Prec uw ur (wr v) (rd v) ∧ ∀ (j u : Nat), j < i → lv[j]? = some u → ¬ Prec uw ur (wr u) (rd u)) ∨ (e = .returned (.int .i64 (-1)) ∧ ∀ u ∈ lv, ¬ Prec uw ur (wr u) (rd u))) ∧ Below w.heap.size w w'

/-- A slice of transactions, read only. -/
structure VRow (w : World) (a : Option Addr) (g : Nat) (lv : List Nat) : Prop where
  addr : 0 < lv.length → a = some ⟨g, 0, none⟩
  lt : 0 < lv.length → g < w.heap.size
  len : lv.length ≤ 100000
  cells : ∀ j x, lv[j]? = some x → w.cell? ⟨g, j, none⟩ = some (.int .i64 ((x : Nat) : Int))

def LowAt (uw ur : List (Int × Int × Int)) (wr rd : Nat → List (Int × Int × Int)) (lv : List Nat) (w0 : World) (k : Nat) (w : World) : Prop := Below w0.heap.size w0 w ∧ ∀ (j u : Nat), j < k → lv[j]? = some u → ¬ Prec uw ur (wr u) (rd u)

def SAcc (F : CF) (bA v b bx n : Nat) (A : AC) (W1 w' : World) : Prop :=
  Below W1.heap.size W1 w' ∧ (w'.cell? ⟨b, 0, none⟩ = some (.slice F.ia F.m F.ic) ∧ w'.cell? ⟨b, 1, none⟩ = some (.int .i64 F.z1) ∧ w'.cell? ⟨b, 2, none⟩ = some (.slice (some ⟨F.g1, 0, none⟩) F.N1 F.N1) ∧ w'.cell? ⟨b, 3, none⟩ = some (.slice F.ba F.nb F.bc) ∧ w'.cell? ⟨b, 4, none⟩ = some (.int .i64 F.z2) ∧ w'.cell? ⟨b, 5, none⟩ = some (.slice (some ⟨F.g2, 0, none⟩) F.N2 F.N2)) ∧
  w'.cell? ⟨bx, 0, none⟩ = some (.slice (some ⟨bA, 0, none⟩) n n) ∧ w'.cell? ⟨bA, v * 2, none⟩ = some (.slice A.wa A.wl A.wc) ∧ w'.cell? ⟨bA, v * 2 + 1, none⟩ = some (.slice A.ra A.rl A.rc)

set_option maxHeartbeats 6400000 in
set_option maxRecDepth 100000 in
theorem lowSucc_any (B : Nat) (F : CF) (uw ur : List (Int × Int × Int)) (items arr1 bounds arr2 : List Int) (ww rr : Nat → List (Int × Int × Int)) (bx bA n : Nat) (a : Option Addr) (cap g L : Nat) (lv : List Nat) (w : World) (hB : B ≤ w.heap.size) (hn : (n : Int) ≤ 1024) (hL : Hid (L = lv.length))
    (hM : Hid (CFMem B F uw ur items arr1 bounds arr2 w)) (hT : Hid (AccTab B w bx bA n ww rr)) (hV : Hid (VRow w a g lv)) (hvn : Hid (∀ v ∈ lv, v < n)) :
    Calls Try.prog 25 #[F.val, .slice a L cap, .pointer (some ⟨bx, 0, none⟩)] w fun e w' => LowSPost uw ur ww rr lv w e w' := by
  have hLl : (L : Int) ≤ 100000 := by have := hL.out; have := hV.out.len; omega
  unfold CF.val
  go_enter Try.func25, Try.ntmps25
  go_wp2_with fail
  obtain ⟨w0, hw0⟩ : ∃ w0, w.alloc (.cells #[.slice F.ia F.m F.ic, .int .i64 F.z1, .slice (some ⟨F.g1, 0, none⟩) F.N1 F.N1, .slice F.ba F.nb F.bc, .int .i64 F.z2, .slice (some ⟨F.g2, 0, none⟩) F.N2 F.N2] 76) = w0 := ⟨_, rfl⟩
  rw [hw0]
  have t0 : Turned [] w w0 := by rw [← hw0]; exact Turned.of_grown (World.grownBy_alloc w _ none) [] (fun k hk => by cases hk)
  have x0 : w0.heap[w.heap.size]? = some (.cells #[.slice F.ia F.m F.ic, .int .i64 F.z1, .slice (some ⟨F.g1, 0, none⟩) F.N1 F.N1, .slice F.ba F.nb F.bc, .int .i64 F.z2, .slice (some ⟨F.g2, 0, none⟩) F.N2 F.N2] 76 (0, 0)) := by rw [← hw0]; exact heap_alloc_new w _
  have s0 : w0.heap.size = w.heap.size + 1 := by rw [← hw0]; simp
  have hb0 := t0.below (Nat.le_refl _) (by simp)
  have X0 := hidden x0
  have HB0 := hidden hb0
  clear hw0 t0 x0 hb0
  go_loopw [10] (fun v wx => ∃ k : Nat, v = .int .i64 k ∧ k ≤ L ∧ Hid (LowAt uw ur ww rr lv w0 k wx)) (fun v _ => L - (intOf v).toNat)
  case atStart => exact ⟨0, rfl, Nat.zero_le _, hidden ⟨Below.refl _ _, fun j u hj => by omega⟩⟩
  case round =>
    obtain ⟨k, rfl, hk, hI⟩ := hrel
    by_cases hlt : (k : Int) < L
    case neg =>
      go_wp2_with fail
      go_returns
      exact ⟨.inr ⟨rfl, fun u hu => by
        obtain ⟨j, hj⟩ := List.mem_iff_getElem?.1 hu
        exact hI.out.2 j u (by have := (List.getElem?_eq_some_iff.1 hj).1; have := hL.out; omega) hj⟩, HB0.out.trans (hI.out.1.mono (by omega))⟩
    obtain ⟨v, hv⟩ : ∃ v, lv[k]? = some v := ⟨_, List.getElem?_eq_getElem (by have := hL.out; omega)⟩
    have hpos : 0 < lv.length := by have := hL.out; omega
    obtain rfl := hV.out.addr hpos
    have hbr : Below w.heap.size w wr := HB0.out.trans (hI.out.1.mono (by omega))
    have c1 := (hbr.cell (p := ⟨g, k, none⟩) (hV.out.lt hpos)).trans (hV.out.cells k v hv)
    have hvn' := hvn.out v (List.mem_of_getElem? hv)
    have b0 : (0 : Int) ≤ k := by omega
    have b1 : (0 : Int) ≤ v := by omega
    have b2 : (v : Int) < n := by omega
    obtain ⟨A, a1, a2, a3⟩ := (hT.out.below (hbr.mono hB)).row v hvn'
    have KEEP : Hid (∀ W', Below wr.heap.size wr W' → SAcc F bA v w.heap.size bx n A wr W') := hidden fun W' hb => by
      have y0 := (hb.block w.heap.size (by have := hI.out.1.size; omega)).trans ((hI.out.1.block w.heap.size (by omega)).trans X0.out)
      have hT' := hT.out.below ((hbr.trans (hb.mono hbr.size)).mono hB)
      have hsz := hbr.size
      refine ⟨hb, ⟨cell_of_row W' _ 0 _ _ _ y0, cell_of_row W' _ 1 _ _ _ y0, cell_of_row W' _ 2 _ _ _ y0, cell_of_row W' _ 3 _ _ _ y0, cell_of_row W' _ 4 _ _ _ y0, cell_of_row W' _ 5 _ _ _ y0⟩, cell_of_row W' bx 0 _ _ _ hT'.at_, (hb.cell (p := ⟨bA, v * 2, none⟩) (by have := hT.out.lt.2; show bA < _; omega)).trans a1, (hb.cell (p := ⟨bA, v * 2 + 1, none⟩) (by have := hT.out.lt.2; show bA < _; omega)).trans a2⟩
    have PR : Hid (∀ W', Below wr.heap.size wr W' → Calls Try.prog 26 #[.agg #[.slice F.ia F.m F.ic, .int .i64 F.z1, .slice (some ⟨F.g1, 0, none⟩) F.N1 F.N1, .slice F.ba F.nb F.bc, .int .i64 F.z2, .slice (some ⟨F.g2, 0, none⟩) F.N2 F.N2], .agg #[.slice A.wa A.wl A.wc, .slice A.ra A.rl A.rc]] W' fun e w' => ∃ b : Bool, e = .returned (.bool b) ∧ (b = true ↔ Prec uw ur (ww v) (rr v)) ∧ Below wr.heap.size wr w') := hidden fun W' hb => by
      have hbW : Below B w W' := (hbr.trans (hb.mono hbr.size)).mono hB
      refine (precedes_any B F A uw ur (ww v) (rr v) items arr1 bounds arr2 W' (by have := hbW.size; omega) (hidden (hM.out.below hbW)) (hidden (a3.below (hb.mono (by have := hbr.size; omega))))).mono ?_
      rintro e w' ⟨⟨b, rfl, hbb⟩, hb'⟩
      exact ⟨b, rfl, hbb, hb.trans (hb'.mono hb.size)⟩
    have HV := hidden hv
    have HBR := hidden hbr
    clear a1 a2 a3 hv hvn' hbr
    go_wp2_with fail
    refine wp_region_noPanic ?_
    refine wp_region_held_drew (S := SAcc F bA v w.heap.size bx n A wr) (by kernel_rfl) (KEEP.out _ (below_drewN (Below.refl _ _) 1)) (fun hHeld => ?_)
    refine wpAnyH_take (i := 0) (v := (.agg #[.slice F.ia F.m F.ic, .int .i64 F.z1, .slice (some ⟨F.g1, 0, none⟩) F.N1 F.N1, .slice F.ba F.nb F.bc, .int .i64 F.z2, .slice (some ⟨F.g2, 0, none⟩) F.N2 F.N2])) rfl (by kernel_rfl) (by kernel_rfl) (by kernel_rfl) (fun _ _ _ h => h) (Or.inl ⟨by rfl, ?_⟩) hHeld ?_
    · rintro w ⟨_, ⟨r0, r1, r2, r3, r4, r5⟩, r6, r7, r8⟩
      go_simp
    try simp only [Act.put, List.getElem_toArray, List.getElem_cons_succ, List.getElem_cons_zero, List.setIfInBounds_toArray, List.set_cons_zero, List.set_cons_succ]
    refine wpAnyH_take (i := 1) (v := (.slice (some ⟨bA, 0, none⟩) n n)) rfl (by kernel_rfl) (by kernel_rfl) (by kernel_rfl) (fun _ _ _ h => h) (Or.inl ⟨by rfl, ?_⟩) hHeld ?_
    · rintro w ⟨_, ⟨r0, r1, r2, r3, r4, r5⟩, r6, r7, r8⟩
      go_simp
    try simp only [Act.put, List.getElem_toArray, List.getElem_cons_succ, List.getElem_cons_zero, List.setIfInBounds_toArray, List.set_cons_zero, List.set_cons_succ]
    refine wpAnyH_take (i := 2) (v := (.int .i64 v)) rfl (by kernel_rfl) (by kernel_rfl) (by kernel_rfl) (fun _ _ _ h => h) (Or.inl ⟨by rfl, ?_⟩) hHeld ?_
    · rintro w ⟨_, ⟨r0, r1, r2, r3, r4, r5⟩, r6, r7, r8⟩
      go_simp
    try simp only [Act.put, List.getElem_toArray, List.getElem_cons_succ, List.getElem_cons_zero, List.setIfInBounds_toArray, List.set_cons_zero, List.set_cons_succ]
    refine wpAnyH_take (i := 3) (v := (.pointer (some ⟨bA, v * 2, none⟩))) rfl (by kernel_rfl) (by kernel_rfl) (by kernel_rfl) (fun _ _ _ h => h) (Or.inl ⟨by rfl, ?_⟩) hHeld ?_
    · rintro w ⟨_, ⟨r0, r1, r2, r3, r4, r5⟩, r6, r7, r8⟩
      go_simp
    try simp only [Act.put, List.getElem_toArray, List.getElem_cons_succ, List.getElem_cons_zero, List.setIfInBounds_toArray, List.set_cons_zero, List.set_cons_succ]
    refine wpAnyH_take (i := 4) (v := (.agg #[.slice A.wa A.wl A.wc, .slice A.ra A.rl A.rc])) rfl (by kernel_rfl) (by kernel_rfl) (by kernel_rfl) (fun _ _ _ h => h) (Or.inl ⟨by rfl, ?_⟩) hHeld ?_
    · rintro w ⟨_, ⟨r0, r1, r2, r3, r4, r5⟩, r6, r7, r8⟩
      go_simp
    try simp only [Act.put, List.getElem_toArray, List.getElem_cons_succ, List.getElem_cons_zero, List.setIfInBounds_toArray, List.set_cons_zero, List.set_cons_succ]
    refine wpAnyH_ready (rs := [5]) (by kernel_rfl) (by simp) (AllReadyH.cons rfl (fun K hK => ?_) AllReadyH.nil)
    go_simp
    refine (PR.out _ hHeld.1).mono ?_
    rintro e w2 ⟨b, rfl, hbb, hb2⟩
    dsimp only
    refine hK.out _ _ (KEEP.out _ hb2) (fun hHeld2 => ?_)
    clear hK hHeld
    have HB2 := hidden hHeld2.1
    clear hHeld2 hb2
    try simp only [Act.put, List.getElem_toArray, List.getElem_cons_succ, List.getElem_cons_zero, List.setIfInBounds_toArray, List.set_cons_zero, List.set_cons_succ]
    refine wpAnyH_done (by kernel_rfl) ?_ _
    refine NoPanic.normal ?_
    have hfin : Below w.heap.size w w2 := HBR.out.trans (HB2.out.mono HBR.out.size)
    have HFIN := hidden hfin
    clear hfin
    cases b with
    | true =>
      have hp := hbb.1 rfl
      clear hbb
      go_wp2_with fail
      go_returns
      exact ⟨.inl ⟨k, v, HV.out, rfl, hp, hI.out.2⟩, HFIN.out⟩
    | false =>
      have hp : ¬ Prec uw ur (ww v) (rr v) := fun h => by cases hbb.2 h
      have NEXT : Hid (LowAt uw ur ww rr lv w0 (k + 1) w2) := hidden ⟨hI.out.1.trans (HB2.out.mono hI.out.1.size), fun j u hj hu => by
        by_cases e : j = k
        · subst e; rw [HV.out] at hu; cases hu; exact hp
        · exact hI.out.2 j u (by omega) hu⟩
      clear hbb
      go_wp2_with fail
      exact ⟨⟨k + 1, by go_num, by omega, NEXT⟩, by simp [intOf]; omega⟩

end Go.Proofs.Qxb6612201a
