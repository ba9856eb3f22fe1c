/-
  WALKS: conflictsFrom: firstWriteIn (30), firstReadOf (31), precedes (26).
-/
import Derived.Test.Qxb6612201aCfP
import Derived.Test.Qxb6612201aShelf
import Derived.Test.Qxb6612201aStabW
import Derived.Test.Qxb6612201aReachW
import Derived.Handy
import Derived.BigQuiet
namespace Go.Proofs.Qxb6612201a
open Go.RowKit Go.Shelf
set_option linter.unusedVariables false
set_option linter.unusedSimpArgs false

/-- A slice of ints, read only, in a block below B. -/
structure IRow (B : Nat) (w : World) (a : Option Addr) (cap g : Nat) (xs : List Int) : Prop where
  addr : 0 < xs.length → a = some ⟨g, 0, none⟩
  lt : g < B
  len : xs.length ≤ 1000000
  cells : ∀ j, j < xs.length → w.cell? ⟨g, j, none⟩ = some (.int .i64 (iAt xs j))

theorem IRow.below {B : Nat} {w w' : World} {a : Option Addr} {cap g : Nat} {xs : List Int} (h : IRow B w a cap g xs) (hb : Below B w w') : IRow B w' a cap g xs :=
  ⟨h.addr, h.lt, h.len, fun j hj => (hb.cell (p := ⟨g, j, none⟩) h.lt).trans (h.cells j hj)⟩

theorem search_any (B : Nat) (a : Option Addr) (cap g L : Nat) (xs : List Int) (x : Int) (w : World) (hL : L = xs.length) (h : IRow B w a cap g xs) (hs : xs.Pairwise (· ≤ ·)) :
    Calls Try.prog 39 #[.slice a L cap, .int .i64 x] w fun e w' => e = .returned (.tuple #[.int .i64 (cntL xs x : Nat), .bool (xs.contains x)]) ∧ ∃ q, w' = w.drewN q := by
  subst hL
  by_cases h0 : 0 < xs.length
  · obtain rfl := h.addr h0
    have h1 := Try.slices_BinarySearch_int g 0 xs.length cap xs x w (Nat.le_refl _) (by have := h.len; omega) (fun j hj => by rw [Nat.zero_add]; exact h.cells j hj) (by rw [List.take_length]; exact hs)
    rw [List.take_length] at h1
    exact h1
  · have hx : xs = [] := List.length_eq_zero_iff.1 (by omega)
    subst hx
    refine (Try.slices_BinarySearch_int_empty a cap x w).mono ?_
    rintro e w' ⟨rfl, rfl⟩
    exact ⟨rfl, 0, rfl⟩

/-- The parts of a conflictsFrom. -/
structure CF where
  (ia : Option Addr)
  (ic ig m z1 N1 H1 g1 : Nat)
  (ba : Option Addr)
  (bc bg nb z2 N2 H2 g2 : Nat)

def CF.val (F : CF) : Value := .agg #[.slice F.ia F.m F.ic, .int .i64 F.z1, .slice (some ⟨F.g1, 0, none⟩) F.N1 F.N1, .slice F.ba F.nb F.bc, .int .i64 F.z2, .slice (some ⟨F.g2, 0, none⟩) F.N2 F.N2]

/-- What it bears, of a transaction that writes uw and reads ur. -/
structure CFMem (B : Nat) (F : CF) (uw ur : List (Int × Int × Int)) (items arr1 bounds arr2 : List Int) (w : World) : Prop where
  hm : F.m = items.length
  row1 : IRow B w F.ia F.ic F.ig items
  sort1 : items.Pairwise (· ≤ ·)
  z1 : F.z1 = 2 ^ F.H1
  n1 : F.N1 = 2 * F.z1
  z1l : (F.z1 : Int) ≤ 2000000
  m1 : F.m ≤ F.z1
  min1 : IsMin F.H1 arr1
  reads1 : Reads w F.g1 F.N1 arr1
  g1 : F.g1 < B
  says1 : ∀ b : Int, b ≤ 9223372036854775807 → ∀ lo hi : Int, (∃ i, i < items.length ∧ lo ≤ iAt items i ∧ iAt items i < hi ∧ iAt arr1 (F.z1 + i) < b) ↔ ∃ t ∈ uw, lo ≤ t.1 ∧ t.1 < hi ∧ t.2.1 < b
  hnb : F.nb = bounds.length
  row2 : IRow B w F.ba F.bc F.bg bounds
  sort2 : bounds.Pairwise (· ≤ ·)
  dup2 : bounds.Nodup
  z2 : F.z2 = 2 ^ F.H2
  n2 : F.N2 = 2 * F.z2
  z2l : (F.z2 : Int) ≤ 2000000
  m2 : bounds.length ≤ F.z2 + 1
  stab2 : IsStab F.H2 arr2 (ur.map fun r => (cntL bounds r.1, cntL bounds r.2.1, r.2.2)).reverse
  mem2 : ∀ r ∈ ur, r.1 ∈ bounds ∧ r.2.1 ∈ bounds
  reads2 : Reads w F.g2 F.N2 arr2
  g2 : F.g2 < B

theorem CFMem.below {B : Nat} {F : CF} {uw ur : List (Int × Int × Int)} {items arr1 bounds arr2 : List Int} {w w' : World} (h : CFMem B F uw ur items arr1 bounds arr2 w) (hb : Below B w w') : CFMem B F uw ur items arr1 bounds arr2 w' :=
  { h with row1 := h.row1.below hb, reads1 := h.reads1.below hb h.g1, row2 := h.row2.below hb, reads2 := h.reads2.below hb h.g2 }

set_option maxHeartbeats 3200000 in
set_option maxRecDepth 100000 in
theorem firstWriteIn_any (B : Nat) (F : CF) (uw ur : List (Int × Int × Int)) (items arr1 bounds arr2 : List Int) (lo hi : Int) (w : World) (hB : B ≤ w.heap.size) (hlo : (0 : Int) ≤ lo) (hM : Hid (CFMem B F uw ur items arr1 bounds arr2 w)) :
    Calls Try.prog 30 #[F.val, .int .i64 lo, .int .i64 hi] w fun e w' => (∃ m, e = .returned (.int .i64 m) ∧ WSays uw lo hi m) ∧ Below w.heap.size w w' := by
  unfold CF.val
  have hb0 : Below w.heap.size w (w.alloc (.cells #[.slice F.ia F.m F.ic, .int .i64 F.z1, .slice (some ⟨F.g1, 0, none⟩) F.N1 F.N1, .slice F.ba F.nb F.bc, .int .i64 F.z2, .slice (some ⟨F.g2, 0, none⟩) F.N2 F.N2] 76)) := (Below.refl _ w).alloc (Nat.le_refl _) _
  have h0 := hM.out.below (hb0.mono hB)
  have HM0 := hidden h0
  have HB0 := hidden hb0
  clear h0 hb0
  have ha : (0 : Int) ≤ (cntL items lo : Nat) := by omega
  have hal : (cntL items lo : Int) ≤ 1000000 := by have := cntL_le items lo; have := hM.out.row1.len; omega
  have hbl : (cntL items hi : Int) ≤ F.z1 := by have := cntL_le items hi; have := hM.out.m1; have := hM.out.hm; omega
  go_enter Try.func30, Try.ntmps30
  go_wp2_with fail
  refine (search_any B F.ia F.ic F.ig F.m items lo _ hM.out.hm HM0.out.row1 HM0.out.sort1).mono ?_
  rintro e w1 ⟨rfl, q, rfl⟩
  go_wp2_with fail
  refine (search_any B F.ia F.ic F.ig F.m items hi _ hM.out.hm (hM.out.below ((below_drewN HB0.out q).mono hB)).row1 HM0.out.sort1).mono ?_
  rintro e w1 ⟨rfl, q', rfl⟩
  go_wp2_with fail
  refine (lowest_any F.g1 F.z1 F.N1 F.H1 (cntL items lo) (cntL items hi) arr1 _ (hidden HM0.out.z1) (hidden HM0.out.n1) HM0.out.z1l (by omega) hbl (hidden HM0.out.min1) (hidden (hM.out.below ((below_drewN HB0.out (q + q')).mono hB)).reads1)).mono ?_
  rintro e w2 ⟨⟨m, rfl, hlow⟩, hb2⟩
  have HL := hidden hlow
  have HB2 := hidden hb2
  clear hlow hb2
  go_wp2_with fail
  go_returns
  refine ⟨⟨m, rfl, fun b hb => ?_⟩, ?_⟩
  · rw [HL.out b hb, ← hM.out.says1 b hb lo hi]
    constructor
    · rintro ⟨i, h1, h2, h3⟩
      have hil : i < items.length := by have := cntL_le items hi; omega
      have := (between hM.out.sort1 hil).1 ⟨h1, h2⟩
      exact ⟨i, hil, this.1, this.2, h3⟩
    · rintro ⟨i, h1, h2, h3, h4⟩
      have := (between hM.out.sort1 h1).2 ⟨h2, h3⟩
      exact ⟨i, this.1, this.2, h4⟩
  · exact (below_drewN HB0.out (q + q')).trans (HB2.out.mono (by simp))

/-- The least of the reads that hold x, found at place k. -/
theorem reads_at {B : Nat} {F : CF} {uw ur : List (Int × Int × Int)} {items arr1 bounds arr2 : List Int} {w : World} (h : CFMem B F uw ur items arr1 bounds arr2 w) {x m : Int} {k : Nat} (hk : cntE bounds x = k + 1) (hz : k < F.z2) (ha : AtSays F.H2 k arr2 m) : RSays ur x m := by
  intro b hb
  rw [ha b hb, h.stab2.ok k (by rw [← h.z2]; exact hz) b hb]
  constructor
  · rintro ⟨t, ht, h1, h2, h3⟩
    obtain ⟨r, hr, rfl⟩ := List.mem_map.1 (List.mem_reverse.1 ht)
    have := (RSays.place h.mem2 hk r hr).1 ⟨h1, h2⟩
    exact ⟨r, hr, this.1, this.2, h3⟩
  · rintro ⟨r, hr, h1, h2, h3⟩
    have := (RSays.place h.mem2 hk r hr).2 ⟨h1, h2⟩
    exact ⟨_, List.mem_reverse.2 (List.mem_map.2 ⟨r, hr, rfl⟩), this.1, this.2, h3⟩

/-- No read holds x. -/
theorem reads_none {B : Nat} {F : CF} {uw ur : List (Int × Int × Int)} {items arr1 bounds arr2 : List Int} {w : World} (h : CFMem B F uw ur items arr1 bounds arr2 w) {x : Int} (hk : cntE bounds x = 0 ∨ bounds.length ≤ cntE bounds x) : RSays ur x 9223372036854775807 := by
  intro b hb
  constructor
  · intro h1; omega
  · rintro ⟨r, hr, h1, h2, h3⟩
    exfalso
    have a1 := mem_place (h.mem2 r hr).1 x
    have a2 := mem_place (h.mem2 r hr).2 x
    rcases hk with hk | hk
    · omega
    · have hlt : cntL bounds r.2.1 < bounds.length := by
        obtain ⟨i, hi, he⟩ := List.mem_iff_getElem.1 (h.mem2 r hr).2
        have h4 : iAt bounds i = r.2.1 := by
          unfold iAt
          rw [List.getD_eq_getElem?_getD, List.getElem?_eq_getElem hi]
          simpa using he
        have := (lt_cntL bounds r.2.1 h.sort2 i hi)
        rw [h4] at this
        omega
      omega

set_option maxHeartbeats 3200000 in
set_option maxRecDepth 100000 in
theorem firstReadOf_any (B : Nat) (F : CF) (uw ur : List (Int × Int × Int)) (items arr1 bounds arr2 : List Int) (x : Int) (w : World) (hB : B ≤ w.heap.size) (hM : Hid (CFMem B F uw ur items arr1 bounds arr2 w)) :
    Calls Try.prog 31 #[F.val, .int .i64 x] w fun e w' => (∃ m, e = .returned (.int .i64 m) ∧ RSays ur x m) ∧ Below w.heap.size w w' := by
  unfold CF.val
  have hb0 : Below w.heap.size w (w.alloc (.cells #[.slice F.ia F.m F.ic, .int .i64 F.z1, .slice (some ⟨F.g1, 0, none⟩) F.N1 F.N1, .slice F.ba F.nb F.bc, .int .i64 F.z2, .slice (some ⟨F.g2, 0, none⟩) F.N2 F.N2] 76)) := (Below.refl _ w).alloc (Nat.le_refl _) _
  have h0 := hM.out.below (hb0.mono hB)
  have HM0 := hidden h0
  have HB0 := hidden hb0
  clear h0 hb0
  obtain ⟨c, hc⟩ : ∃ c, c = cntL bounds x := ⟨_, rfl⟩
  have hcl : (c : Int) ≤ bounds.length := by rw [hc]; have := cntL_le bounds x; omega
  have hnl : (F.nb : Int) = bounds.length := by have := hM.out.hnb; omega
  have hnm : (F.nb : Int) ≤ 1000000 := by have := hM.out.row2.len; omega
  have hcn : (c : Int) ≤ F.nb := by omega
  have hnz : (F.nb : Int) ≤ F.z2 + 1 := by have := hM.out.m2; omega
  have HC := hidden hc
  have HNL := hidden hnl
  clear hcl hnl
  have hs1 := hidden (search_any B F.ba F.bc F.bg F.nb bounds x _ hM.out.hnb HM0.out.row2 HM0.out.sort2)
  rw [← hc] at hs1
  clear hc
  by_cases hct : bounds.contains x = true
  · have hE : Hid (cntE bounds x = c + 1) := hidden (by rw [HC.out]; exact cntE_of_mem hM.out.dup2 (by simpa using hct))
    rw [hct] at hs1
    by_cases hlt : (c : Int) < F.nb - 1
    · go_enter Try.func31, Try.ntmps31
      go_wp2_with fail
      refine hs1.out.mono ?_
      rintro e w1 ⟨rfl, q, rfl⟩
      go_wp2_with fail
      refine (at_any F.g2 F.z2 F.N2 F.H2 c arr2 _ (hidden HM0.out.z2) (hidden HM0.out.n2) HM0.out.z2l (by omega) (hidden (hM.out.below ((below_drewN HB0.out q).mono hB)).reads2)).mono ?_
      rintro e w2 ⟨⟨m, rfl, hlow⟩, hb2⟩
      have HL := hidden hlow
      have HB2 := hidden hb2
      clear hlow hb2
      go_wp2_with fail
      go_returns
      exact ⟨⟨m, rfl, reads_at hM.out hE.out (by omega) HL.out⟩, (below_drewN HB0.out q).trans (HB2.out.mono (by simp))⟩
    · go_enter Try.func31, Try.ntmps31
      go_wp2_with fail
      refine hs1.out.mono ?_
      rintro e w1 ⟨rfl, q, rfl⟩
      go_wp2_with fail
      go_returns
      exact ⟨⟨_, rfl, reads_none hM.out (.inr (by have := hE.out; have := HNL.out; omega))⟩, below_drewN HB0.out q⟩
  · have hct' : bounds.contains x = false := by simpa using hct
    have hE : Hid (cntE bounds x = c) := hidden (by rw [HC.out]; exact cntE_of_not (by simpa using hct))
    rw [hct'] at hs1
    by_cases hc0 : (c : Int) = 0
    · have hc0' : c = 0 := by omega
      subst hc0'
      go_enter Try.func31, Try.ntmps31
      go_wp2_with fail
      refine hs1.out.mono ?_
      rintro e w1 ⟨rfl, q, rfl⟩
      go_wp2_with fail
      go_returns
      exact ⟨⟨_, rfl, reads_none hM.out (.inl hE.out)⟩, below_drewN HB0.out q⟩
    · obtain ⟨k, rfl⟩ : ∃ k, c = k + 1 := ⟨c - 1, by omega⟩
      have e1 : ((k + 1 : Nat) : Int) - 1 = k := by omega
      by_cases hlt : (k : Int) < F.nb - 1
      · go_enter Try.func31, Try.ntmps31
        go_wp2_with fail
        refine hs1.out.mono ?_
        rintro e w1 ⟨rfl, q, rfl⟩
        go_wp2_with fail
        refine (at_any F.g2 F.z2 F.N2 F.H2 k arr2 _ (hidden HM0.out.z2) (hidden HM0.out.n2) HM0.out.z2l (by omega) (hidden (hM.out.below ((below_drewN HB0.out q).mono hB)).reads2)).mono ?_
        rintro e w2 ⟨⟨m, rfl, hlow⟩, hb2⟩
        have HL := hidden hlow
        have HB2 := hidden hb2
        clear hlow hb2
        go_wp2_with fail
        go_returns
        exact ⟨⟨m, rfl, reads_at hM.out hE.out (by omega) HL.out⟩, (below_drewN HB0.out q).trans (HB2.out.mono (by simp))⟩
      · go_enter Try.func31, Try.ntmps31
        go_wp2_with fail
        refine hs1.out.mono ?_
        rintro e w1 ⟨rfl, q, rfl⟩
        go_wp2_with fail
        go_returns
        exact ⟨⟨_, rfl, reads_none hM.out (.inr (by have := hE.out; have := HNL.out; omega))⟩, below_drewN HB0.out q⟩

end Go.Proofs.Qxb6612201a
