/-
  WALKS: scDistTo, scDistFrom.
-/
import Derived.Test.Qxb6612201aGraphW
import Derived.Test.Qxb6612201aGraph
import Derived.Test.Qxb6612201aBelowW
namespace Go.Proofs.Qxb6612201a
open Go.RowKit
set_option linter.unusedVariables false
set_option linter.unusedSimpArgs false

/-- A row of bools, read only. -/
def ReadsB (w : World) (g N : Nat) (bs : List Bool) : Prop := bs.length = N ∧ g < w.heap.size ∧ ∀ j, j < N → w.cell? ⟨g, j, none⟩ = some (.bool (bAt bs j))

theorem ReadsB.below {w w' : World} {g N : Nat} {bs : List Bool} (h : ReadsB w g N bs) {B : Nat} (hb : Below B w w') (hg : g < B) : ReadsB w' g N bs :=
  ⟨h.1, Nat.lt_of_lt_of_le h.2.1 hb.size, fun j hj => (hb.cell (p := ⟨g, j, none⟩) hg).trans (h.2.2 j hj)⟩

theorem OwnsBs.reads {w : World} {B g N : Nat} {bs : List Bool} (h : OwnsBs w B g N bs) : ReadsB w g N bs := by
  have hl : bs.length = N := by have := h.1; simpa using this
  exact ⟨hl, (World.ownsRow.lt h g rfl).2, fun j hj => (World.ownsRow.cellAt h j (by omega)).trans (bools_get bs j (by omega))⟩

/-- The memory of the search. -/
def BfsMem (W w : World) (n gq cq : Nat) (q : List Nat) (ds : List Int) : Prop :=
  w.ownsRow W.heap.size 3 1 (.slice (some ⟨W.heap.size, 0, none⟩) n n) n (ds.map (Value.int .i64)) ∧ w.ownsRow W.heap.size 3 1 (.slice (some ⟨gq, 0, none⟩) q.length cq) q.length (q.map (fun (x : Nat) => Value.int .i64 (x : Int))) ∧ gq ≠ W.heap.size ∧ Below W.heap.size W w

theorem BfsMem.drewN {W w : World} {n gq cq : Nat} {q : List Nat} {ds : List Int} (h : BfsMem W w n gq cq q ds) (k : Nat) : BfsMem W (w.drewN k) n gq cq q ds := ⟨h.1, h.2.1, h.2.2.1, below_drewN h.2.2.2 k⟩

theorem BfsMem.set {W w : World} {n gq cq : Nat} {q : List Nat} {ds : List Int} (h : BfsMem W w n gq cq q ds) (v : Nat) (x : Int) : BfsMem W (w.setCell ⟨W.heap.size, v, none⟩ (.int .i64 x)) n gq cq q (ds.set v x) := by
  obtain ⟨h1, h2, h3, h4⟩ := h
  obtain ⟨r1, g1⟩ := h1.stored v (.int .i64 x)
  rw [ints_set] at r1
  exact ⟨r1, h2.kept g1 (Or.inr (by simp [Value.ownBlock]; exact h3)), h3, h4.grown g1 h4.size (fun k hk => by cases hk; exact Nat.le_refl _)⟩

theorem BfsMem.alloc {W w : World} {n gq cq : Nat} {q : List Nat} {ds : List Int} (h : BfsMem W w n gq cq q ds) (o : Obj) : BfsMem W (w.alloc o) n gq cq q ds :=
  ⟨h.1.alloc o, h.2.1.alloc o, h.2.2.1, h.2.2.2.alloc h.2.2.2.size o⟩

theorem BfsMem.pushed {W w w' : World} {n gq cq gq' cq' : Nat} {q : List Nat} {ds : List Int} {v : Nat} (h : BfsMem W w n gq cq q ds)
    (ho : w'.ownsRow W.heap.size 3 1 (.slice (some ⟨gq', 0, none⟩) (q.length + 1) cq') (q.length + 1) (q.map (fun (x : Nat) => Value.int .i64 (x : Int)) ++ [.int .i64 (v : Int)])) (hg : w.grownBy w' (some gq)) (hl : (Value.slice (some ⟨gq', 0, none⟩) (q.length + 1) cq').ownBlock = some gq ∨ (Value.slice (some ⟨gq', 0, none⟩) (q.length + 1) cq').ownBlock = some w.heap.size) :
    BfsMem W w' n gq' cq' (q ++ [v]) ds := by
  obtain ⟨h1, h2, h3, h4⟩ := h
  have hlt : W.heap.size < w.heap.size := (h1.lt _ rfl).2
  refine ⟨h1.kept hg (Or.inr (by simp [Value.ownBlock]; exact Ne.symm h3)), by rw [List.length_append, List.map_append]; exact ho, ?_, h4.grown hg h4.size (fun k hk => by cases hk; exact (h2.lt _ rfl).1)⟩
  rcases hl with hl | hl
  · simp [Value.ownBlock] at hl
    omega
  · simp [Value.ownBlock] at hl
    omega

/-- What holds of the search between rounds. -/
def BfsNow (R : Nat → Nat → Prop) (n s k : Nat) (q : List Nat) (ds : List Int) (P : Nat → Prop) : Prop :=
  Bfs R s ds (q.drop k) P ∧ q.length + unmet ds = n ∧ ds.length = n ∧ ∀ x ∈ q, x < n

/-- What holds of the search within a round. -/
def MidNow (R : Nat → Nat → Prop) (n s k u v : Nat) (q : List Nat) (ds : List Int) (P : Nat → Prop) : Prop :=
  Mid R s ds (q.drop (k + 1)) P u ∧ q.length + unmet ds = n ∧ ds.length = n ∧ (∀ x ∈ q, x < n) ∧ k + 1 ≤ q.length ∧ ∀ x, x < v → R u x → 0 ≤ dAt ds x

theorem MidNow.skip {R : Nat → Nat → Prop} {n s k u v : Nat} {q : List Nat} {ds : List Int} {P : Nat → Prop} (h : MidNow R n s k u v q ds P) (hv : R u v → 0 ≤ dAt ds v) : MidNow R n s k u (v + 1) q ds P :=
  ⟨h.1, h.2.1, h.2.2.1, h.2.2.2.1, h.2.2.2.2.1, fun x hx hr => by
    by_cases e : x = v
    · subst e; exact hv hr
    · exact h.2.2.2.2.2 x (by omega) hr⟩

theorem MidNow.put {R : Nat → Nat → Prop} {n s k u v : Nat} {q : List Nat} {ds : List Int} {P : Nat → Prop} (h : MidNow R n s k u v q ds P) (hv : v < n) (hR : R u v) (hn : dAt ds v < 0) : MidNow R n s k u (v + 1) (q ++ [v]) (ds.set v (dAt ds u + 1)) P := by
  obtain ⟨h1, h2, h3, h4, h5, h6⟩ := h
  have hu := h1.posU
  have un := unmet_set ds v (dAt ds u + 1) (by omega) hn (by omega)
  refine ⟨?_, ?_, by rw [List.length_set]; exact h3, ?_, by rw [List.length_append]; omega, fun x hx hr => ?_⟩
  · rw [List.drop_append_of_le_length h5]
    exact h1.reach hR (by omega) hn
  · rw [List.length_append, List.length_singleton]; omega
  · intro x hx
    rcases List.mem_append.1 hx with hx | hx
    · exact h4 x hx
    · rw [List.mem_singleton] at hx; omega
  · rw [dAt_set _ _ _ _ (by omega)]
    by_cases e : x = v
    · rw [if_pos e]; omega
    · rw [if_neg e]; exact h6 x (by omega) hr

/-- What the two searches hand back. -/
def DistPost (R : Nat → Nat → Prop) (n s : Nat) (w : World) (e : Ending) (w' : World) : Prop :=
  ∃ g ds, e = .returned (.slice (some ⟨g, 0, none⟩) n n) ∧ w'.ownsRow w.heap.size 3 1 (.slice (some ⟨g, 0, none⟩) n n) n (ds.map (Value.int .i64)) ∧ ds.length = n ∧ IsDist R s (dAt ds) ∧ (∀ v, dAt ds v < 0 → dAt ds v = -1) ∧ (∀ v, dAt ds v ≤ n) ∧ Below w.heap.size w w'

def natInts (q : List Nat) : List Value := q.map (fun (x : Nat) => Value.int .i64 (x : Int))

theorem natInts_get (q : List Nat) (k : Nat) (hk : k < q.length) : (natInts q)[k]? = some (.int .i64 ((q[k] : Nat) : Int)) := by
  unfold natInts
  rw [List.getElem?_map, List.getElem?_eq_getElem hk]
  rfl

theorem iAt_dAt (ds : List Int) (v : Nat) (hv : v < ds.length) : iAt ds v = dAt ds v := by
  unfold iAt dAt
  rw [List.getD_eq_getElem?_getD, List.getD_eq_getElem?_getD, List.getElem?_eq_getElem hv]
  rfl


set_option maxHeartbeats 12800000 in
set_option maxRecDepth 100000 in
theorem distTo_any (E : Nat → Nat → Prop) (ga NN n s : Nat) (bs : List Bool) (w : World) (hn : (n : Int) ≤ 1024) (hs : (s : Int) < n) (HNN : Hid (NN = n * n)) (ha : Hid (ReadsB w ga NN bs)) (hA : Hid (Adj E n bs)) (hE : Hid (∀ u v, E u v → u < n ∧ v < n)) :
    Calls Try.prog 8 #[.slice (some ⟨ga, 0, none⟩) NN NN, .int .i64 n, .int .i64 s] w fun e w' => DistPost (fun a b => E b a) n s w e w' := by
  obtain ⟨i3, hi3, z30, z31, z32⟩ := info_parts Try.info3
  go_enter Try.func8, Try.ntmps8
  go_wp2_with (at_make; refine wpList_make_full _ rfl _ _ 22 rfl w.heap.size 3 i3 (.int .i64 0) 1 Try.underlying22 hi3 z30 z31 .i64 .i64 _ _ n rfl rfl rfl rfl (by rw [z32]; omega) (by unfold maxLen; omega) (Nat.le_refl _) ?_; intro w1 hown1 hgrow1)
  have hB1 := (Below.refl w.heap.size w).grown hgrow1 (Nat.le_refl _) (fun k hk => by cases hk)
  rw [show (madeCells (Value.int IntKind.i64 0).cells (n * 1)).toList = filled n 0 (-1) by rw [show (Value.int IntKind.i64 0).cells = #[.int .i64 0] from rfl, Nat.mul_one, toList_madeCells_one]; rfl] at hown1
  have HO := hidden hown1
  have HB := hidden hB1
  clear hown1 hB1 hgrow1
  go_loopw [8] (fun v wr => ∃ k : Nat, k ≤ n ∧ v = .int .i64 k ∧ Hid (wr.ownsRow w.heap.size 3 1 (.slice (some ⟨w.heap.size, 0, none⟩) n n) n (filled n k (-1))) ∧ Hid (Below w.heap.size w wr)) (fun v _ => n - (intOf v).toNat)
  case atStart => exact ⟨0, Nat.zero_le _, rfl, HO, HB⟩
  case round =>
    clear HO HB
    obtain ⟨k, hk, rfl, ho, hb⟩ := hrel
    by_cases hlt : (k : Int) < n
    · have e1 := (ho.out.cellAt k (by omega)).trans (filled_at n k (-1) (by omega))
      have f1 := ho.out.frozenAt k
      obtain ⟨r1, g1⟩ := ho.out.stored k (.int .i64 (-1))
      rw [filled_set n k (-1) (by omega)] at r1
      have R1 := hidden r1
      have G1 := hidden g1
      clear r1 g1
      go_wp2_with fail
      go_roundw
      case rel => exact ⟨k + 1, by omega, by go_num, R1, hidden (hb.out.grown G1.out hb.out.size (fun j hj => by cases hj; exact Nat.le_refl _))⟩
      case measure => simp [intOf]; omega
    have hkn : n = k := by omega
    subst hkn
    have o1 := ho.out
    rw [filled_all] at o1
    have e1 := (o1.cellAt s (by omega)).trans (ints_get _ s (by simp; omega))
    have f1 := o1.frozenAt s
    obtain ⟨r1, g1⟩ := o1.stored s (.int .i64 0)
    rw [ints_set] at r1
    have hb2 := hb.out.grown g1 hb.out.size (fun j hj => by cases hj; exact Nat.le_refl _)
    have bs0 : (0 : Int) ≤ (s : Int) := by omega
    have R1 := hidden r1
    have B2 := hidden hb2
    clear r1 g1 hb2 o1 ho hb
    have hM0 : BfsMem w ((wr.setCell ⟨w.heap.size, s, none⟩ (.int .i64 0)).alloc (.cells #[.int .i64 (s : Int)] 3)) n wr.heap.size 1 [s] ((List.replicate n (-1)).set s 0) := by
      have hlt := (R1.out.lt _ rfl).2
      refine ⟨R1.out.alloc _, ?_, ?_, B2.out.alloc B2.out.size _⟩
      · have h1 := World.ownsRow_lit (base := w.heap.size) (e := 3) (size := 1) (wr.setCell ⟨w.heap.size, s, none⟩ (.int .i64 0)) #[.int .i64 (s : Int)] 1 B2.out.size (by unfold maxLen; omega) rfl
        simpa using h1
      · simp at hlt; omega
    have M0 := hidden hM0
    have N0 := hidden (show BfsNow (fun a b => E b a) n s 0 [s] ((List.replicate n (-1)).set s 0) (fun _ => False) from ⟨Bfs.start _ s n (by omega), by
      have h1 := unmet_set (List.replicate n (-1)) s 0 (by simp; omega) (by rw [dAt_replicate]; decide) (by decide)
      rw [unmet_replicate] at h1
      simp
      omega, by simp, by simp; omega⟩)
    clear hM0 R1 B2
    go_wp2_with fail
    go_loopw [9, 10] (fun v9 v10 wx => ∃ (q : List Nat) (k gq cq : Nat) (ds : List Int) (P : Nat → Prop), v9 = .slice (some ⟨gq, 0, none⟩) q.length cq ∧ v10 = .int .i64 k ∧ k ≤ q.length ∧ Hid (BfsNow (fun a b => E b a) n s k q ds P) ∧ Hid (BfsMem w wx n gq cq q ds)) (fun _ v10 _ => n - (intOf v10).toNat)
    case atStart => exact ⟨[s], 0, wr.heap.size, 1, _, _, rfl, rfl, Nat.zero_le _, N0, M0⟩
    case round =>
      clear N0 M0
      obtain ⟨q, k, gq, cq, ds, P, rfl, rfl, hkq, hN, hM⟩ := hrel
      have hqn : (q.length : Int) ≤ n := by have := hN.out.2.1; omega
      by_cases hlt2 : (k : Int) < q.length
      case neg =>
        go_wp2_with fail
        go_returns
        obtain ⟨h1, h2, h3, h4⟩ := hN.out
        rw [List.drop_eq_nil_of_le (by omega)] at h1
        exact ⟨w.heap.size, ds, rfl, hM.out.1, h3, h1.final, h1.neg, fun v => by have := h1.small v; omega, hM.out.2.2.2⟩
      obtain ⟨u, hu⟩ : ∃ u, q[k]? = some u := ⟨_, List.getElem?_eq_getElem (by omega)⟩
      have hun : u < n := hN.out.2.2.2 u (List.mem_of_getElem? hu)
      have c1 : wr.cell? ⟨gq, k, none⟩ = some (.int .i64 (u : Int)) := by
        rw [hM.out.2.1.cellAt k (by omega), List.getElem?_map, hu]
        rfl
      have bk0 : (0 : Int) ≤ (k : Int) := by omega
      have hmid : Mid (fun a b => E b a) s ds (q.drop (k + 1)) P u := by
        have h1 := hN.out.1
        rw [List.drop_eq_getElem_cons (by omega : k < q.length)] at h1
        have h2 := (List.getElem?_eq_some_iff.1 hu).2
        rw [h2] at h1
        exact h1.pop
      have HMID := hidden hmid
      have HU := hidden hun
      have hun' : (u : Int) < n := by omega
      have bu0 : (0 : Int) ≤ (u : Int) := by omega
      have hkk : (k : Int) ≤ 1024 := by omega
      clear hmid hu hun
      go_wp2_with fail
      go_loopw [9, 12] (fun v9 v12 wx => ∃ (q : List Nat) (v gq cq : Nat) (ds : List Int), v9 = .slice (some ⟨gq, 0, none⟩) q.length cq ∧ v12 = .int .i64 v ∧ v ≤ n ∧ Hid (MidNow (fun a b => E b a) n s k u v q ds P) ∧ Hid (BfsMem w wx n gq cq q ds)) (fun _ v12 _ => n - (intOf v12).toNat)
      case atStart => exact ⟨q, 0, gq, cq, ds, rfl, rfl, Nat.zero_le _, hidden ⟨HMID.out, hN.out.2.1, hN.out.2.2.1, hN.out.2.2.2, by omega, fun x hx => by omega⟩, hM⟩
      case round =>
        clear HMID hN hM c1 hlt2 hkq hqn
        obtain ⟨q, v, gq, cq, ds, rfl, rfl, hvn, hN, hM⟩ := hrel
        have hqn : (q.length : Int) ≤ n := by have := hN.out.2.1; omega
        by_cases hlt3 : (v : Int) < n
        case neg =>
          go_wp2_with fail
          go_roundw
          case rel => exact ⟨q, k + 1, gq, cq, ds, _, rfl, by go_num, hN.out.2.2.2.2.1, hidden ⟨hN.out.1.done (fun x hx => hN.out.2.2.2.2.2 x (Nat.lt_of_lt_of_le ((hE.out x u hx).1) (by omega)) hx), hN.out.2.1, hN.out.2.2.1, hN.out.2.2.2.1⟩, hM⟩
          case measure => have := hN.out.2.2.2.2.1; simp [intOf]; omega
        obtain ⟨y, hy⟩ : ∃ y : Nat, y = v * n := ⟨_, rfl⟩
        have hy1 : y + n ≤ NN := by
          have h1 : (v + 1) * n ≤ n * n := Nat.mul_le_mul_right n (by omega)
          rw [Nat.add_mul, Nat.one_mul] at h1
          have := HNN.out
          omega
        have hN1 : (NN : Int) ≤ 1048576 := by
          have : n * n ≤ 1024 * 1024 := Nat.mul_le_mul (by omega) (by omega)
          have := HNN.out
          omega
        have hy2 : (v : Int) * (n : Int) = y := by rw [hy]; simp
        have wy : IntKind.i64.wrap ((v : Int) * (n : Int)) = (y : Int) := by rw [hy2]; simp [IntKind.wrap, IntKind.bits, IntKind.signed]; omega
        obtain ⟨x, hx⟩ : ∃ x : Nat, x = y + u := ⟨_, rfl⟩
        have hxn : x < NN := by omega
        have x1 : (y : Int) + (u : Int) = x := by omega
        have x2 : IntKind.i64.wrap ((y : Int) + (u : Int)) = (x : Int) := by rw [x1]; simp [IntKind.wrap, IntKind.bits, IntKind.signed]; omega
        have x3 : (x : Int) < NN := by omega
        have x4 : (0 : Int) ≤ (x : Int) := by omega
        have bv0 : (0 : Int) ≤ (v : Int) := by omega
        have ca := (ha.out.below hM.out.2.2.2 ha.out.2.1).2.2 x hxn
        have hRx : bAt bs x = true ↔ ((fun a b => E b a)) u v := by
          rw [hx, hy]
          exact hA.out.2 _ _ (by omega) (by omega)
        have cd := (hM.out.1.cellAt v (by omega)).trans (ints_get ds v (by have := hN.out.2.2.1; omega))
        rw [iAt_dAt ds v (by have := hN.out.2.2.1; omega)] at cd
        have cu := (hM.out.1.cellAt u (by omega)).trans (ints_get ds u (by have := hN.out.2.2.1; omega))
        rw [iAt_dAt ds u (by have := hN.out.2.2.1; omega)] at cu
        have fv := hM.out.1.frozenAt v
        obtain ⟨b, hb⟩ : ∃ b, b = bAt bs x := ⟨_, rfl⟩
        obtain ⟨dv, hdv⟩ : ∃ b, b = dAt ds v := ⟨_, rfl⟩
        obtain ⟨du, hdu⟩ : ∃ b, b = dAt ds u := ⟨_, rfl⟩
        rw [← hb] at ca hRx
        rw [← hdv] at cd
        rw [← hdu] at cu
        have du0 : 0 ≤ du := by rw [hdu]; exact hN.out.1.posU
        have du1 : du ≤ 1024 := by rw [hdu]; have := hN.out.1.small u; have := hN.out.2.2.1; omega
        have HR := hidden hRx
        have HDV := hidden hdv
        have HDU := hidden hdu
        clear hRx hb hdv hdu hy hy1 hy2 hx hxn x1
        cases b with
        | false =>
          go_wp2_with fail
          go_roundw
          case rel => exact ⟨q, v + 1, gq, cq, ds, rfl, by go_num, by omega, hidden (hN.out.skip fun h => by have := HR.out.2 h; cases this), hM⟩
          case measure => simp [intOf]; omega
        | true =>
          by_cases hd : dv < 0
          case neg =>
            go_wp2_with fail
            go_roundw
            case rel => exact ⟨q, v + 1, gq, cq, ds, rfl, by go_num, by omega, hidden (hN.out.skip fun h => by rw [← HDV.out]; omega), hM⟩
            case measure => simp [intOf]; omega
          have hM2 := hM.out.set v (du + 1)
          have M2 := hidden hM2
          have M3 := hidden (hM2.alloc (.cells #[.int .i64 (v : Int)] 3))
          have N2 := hidden (show MidNow (fun a b => E b a) n s k u (v + 1) (q ++ [v]) (ds.set v (du + 1)) P by rw [HDU.out]; exact hN.out.put (by omega) (HR.out.1 rfl) (by rw [← HDV.out]; exact hd))
          have hnew : ∀ j u, [Value.int .i64 (v : Int)][j]? = some u → ((wr.setCell ⟨w.heap.size, v, none⟩ (.int .i64 (du + 1))).alloc (.cells #[.int .i64 (v : Int)] 3)).cell? ((⟨wr.heap.size, 0, none⟩ : Addr).add j) = some u := by
            have h1 := cell_one_new (wr.setCell ⟨w.heap.size, v, none⟩ (.int .i64 (du + 1))) (.int .i64 (v : Int)) 3
            rw [show (wr.setCell ⟨w.heap.size, v, none⟩ (.int .i64 (du + 1))).heap.size = wr.heap.size by simp] at h1
            exact h1
          have HNEW := hidden hnew
          clear hM2 hnew
          go_wp2_with (at_builtin; (refine wpList_append_own_at _ rfl _ _ 22 rfl w.heap.size 3 i3 (.int .i64 0) 1 8 Try.underlying22 hi3 z30 z31 z32 rfl (by decide) (.slice (some ⟨gq, 0, none⟩) q.length cq) q.length _ rfl M3.out.2.1 ⟨wr.heap.size, 0, none⟩ 1 1 [.int .i64 (v : Int)] rfl rfl HNEW.out (ints_oneCell .i64 [(v : Int)]) (by unfold maxLen; omega) (by omega) (M3.out.2.2.2.size) ?_); intro v' w2 hown' hgrow hnil hloc; obtain ⟨gq', cq', rfl⟩ := own_form hown')
          go_roundw
          case rel => exact ⟨q ++ [v], v + 1, gq', cq', ds.set v (du + 1), by simp, by go_num, by omega, N2, hidden (M3.out.pushed hown' hgrow hloc)⟩
          case measure => simp [intOf]; omega

set_option maxHeartbeats 12800000 in
set_option maxRecDepth 100000 in
theorem distFrom_any (E : Nat → Nat → Prop) (ga NN n s : Nat) (bs : List Bool) (w : World) (hn : (n : Int) ≤ 1024) (hs : (s : Int) < n) (HNN : Hid (NN = n * n)) (ha : Hid (ReadsB w ga NN bs)) (hA : Hid (Adj E n bs)) (hE : Hid (∀ u v, E u v → u < n ∧ v < n)) :
    Calls Try.prog 13 #[.slice (some ⟨ga, 0, none⟩) NN NN, .int .i64 n, .int .i64 s] w fun e w' => DistPost E n s w e w' := by
  obtain ⟨i3, hi3, z30, z31, z32⟩ := info_parts Try.info3
  go_enter Try.func13, Try.ntmps13
  go_wp2_with (at_make; refine wpList_make_full _ rfl _ _ 22 rfl w.heap.size 3 i3 (.int .i64 0) 1 Try.underlying22 hi3 z30 z31 .i64 .i64 _ _ n rfl rfl rfl rfl (by rw [z32]; omega) (by unfold maxLen; omega) (Nat.le_refl _) ?_; intro w1 hown1 hgrow1)
  have hB1 := (Below.refl w.heap.size w).grown hgrow1 (Nat.le_refl _) (fun k hk => by cases hk)
  rw [show (madeCells (Value.int IntKind.i64 0).cells (n * 1)).toList = filled n 0 (-1) by rw [show (Value.int IntKind.i64 0).cells = #[.int .i64 0] from rfl, Nat.mul_one, toList_madeCells_one]; rfl] at hown1
  have HO := hidden hown1
  have HB := hidden hB1
  clear hown1 hB1 hgrow1
  go_loopw [8] (fun v wr => ∃ k : Nat, k ≤ n ∧ v = .int .i64 k ∧ Hid (wr.ownsRow w.heap.size 3 1 (.slice (some ⟨w.heap.size, 0, none⟩) n n) n (filled n k (-1))) ∧ Hid (Below w.heap.size w wr)) (fun v _ => n - (intOf v).toNat)
  case atStart => exact ⟨0, Nat.zero_le _, rfl, HO, HB⟩
  case round =>
    clear HO HB
    obtain ⟨k, hk, rfl, ho, hb⟩ := hrel
    by_cases hlt : (k : Int) < n
    · have e1 := (ho.out.cellAt k (by omega)).trans (filled_at n k (-1) (by omega))
      have f1 := ho.out.frozenAt k
      obtain ⟨r1, g1⟩ := ho.out.stored k (.int .i64 (-1))
      rw [filled_set n k (-1) (by omega)] at r1
      have R1 := hidden r1
      have G1 := hidden g1
      clear r1 g1
      go_wp2_with fail
      go_roundw
      case rel => exact ⟨k + 1, by omega, by go_num, R1, hidden (hb.out.grown G1.out hb.out.size (fun j hj => by cases hj; exact Nat.le_refl _))⟩
      case measure => simp [intOf]; omega
    have hkn : n = k := by omega
    subst hkn
    have o1 := ho.out
    rw [filled_all] at o1
    have e1 := (o1.cellAt s (by omega)).trans (ints_get _ s (by simp; omega))
    have f1 := o1.frozenAt s
    obtain ⟨r1, g1⟩ := o1.stored s (.int .i64 0)
    rw [ints_set] at r1
    have hb2 := hb.out.grown g1 hb.out.size (fun j hj => by cases hj; exact Nat.le_refl _)
    have bs0 : (0 : Int) ≤ (s : Int) := by omega
    have R1 := hidden r1
    have B2 := hidden hb2
    clear r1 g1 hb2 o1 ho hb
    have hM0 : BfsMem w ((wr.setCell ⟨w.heap.size, s, none⟩ (.int .i64 0)).alloc (.cells #[.int .i64 (s : Int)] 3)) n wr.heap.size 1 [s] ((List.replicate n (-1)).set s 0) := by
      have hlt := (R1.out.lt _ rfl).2
      refine ⟨R1.out.alloc _, ?_, ?_, B2.out.alloc B2.out.size _⟩
      · have h1 := World.ownsRow_lit (base := w.heap.size) (e := 3) (size := 1) (wr.setCell ⟨w.heap.size, s, none⟩ (.int .i64 0)) #[.int .i64 (s : Int)] 1 B2.out.size (by unfold maxLen; omega) rfl
        simpa using h1
      · simp at hlt; omega
    have M0 := hidden hM0
    have N0 := hidden (show BfsNow E n s 0 [s] ((List.replicate n (-1)).set s 0) (fun _ => False) from ⟨Bfs.start _ s n (by omega), by
      have h1 := unmet_set (List.replicate n (-1)) s 0 (by simp; omega) (by rw [dAt_replicate]; decide) (by decide)
      rw [unmet_replicate] at h1
      simp
      omega, by simp, by simp; omega⟩)
    clear hM0 R1 B2
    go_wp2_with fail
    go_loopw [9, 10] (fun v9 v10 wx => ∃ (q : List Nat) (k gq cq : Nat) (ds : List Int) (P : Nat → Prop), v9 = .slice (some ⟨gq, 0, none⟩) q.length cq ∧ v10 = .int .i64 k ∧ k ≤ q.length ∧ Hid (BfsNow E n s k q ds P) ∧ Hid (BfsMem w wx n gq cq q ds)) (fun _ v10 _ => n - (intOf v10).toNat)
    case atStart => exact ⟨[s], 0, wr.heap.size, 1, _, _, rfl, rfl, Nat.zero_le _, N0, M0⟩
    case round =>
      clear N0 M0
      obtain ⟨q, k, gq, cq, ds, P, rfl, rfl, hkq, hN, hM⟩ := hrel
      have hqn : (q.length : Int) ≤ n := by have := hN.out.2.1; omega
      by_cases hlt2 : (k : Int) < q.length
      case neg =>
        go_wp2_with fail
        go_returns
        obtain ⟨h1, h2, h3, h4⟩ := hN.out
        rw [List.drop_eq_nil_of_le (by omega)] at h1
        exact ⟨w.heap.size, ds, rfl, hM.out.1, h3, h1.final, h1.neg, fun v => by have := h1.small v; omega, hM.out.2.2.2⟩
      obtain ⟨u, hu⟩ : ∃ u, q[k]? = some u := ⟨_, List.getElem?_eq_getElem (by omega)⟩
      have hun : u < n := hN.out.2.2.2 u (List.mem_of_getElem? hu)
      have c1 : wr.cell? ⟨gq, k, none⟩ = some (.int .i64 (u : Int)) := by
        rw [hM.out.2.1.cellAt k (by omega), List.getElem?_map, hu]
        rfl
      have bk0 : (0 : Int) ≤ (k : Int) := by omega
      have hmid : Mid E s ds (q.drop (k + 1)) P u := by
        have h1 := hN.out.1
        rw [List.drop_eq_getElem_cons (by omega : k < q.length)] at h1
        have h2 := (List.getElem?_eq_some_iff.1 hu).2
        rw [h2] at h1
        exact h1.pop
      have HMID := hidden hmid
      have HU := hidden hun
      have hun' : (u : Int) < n := by omega
      have bu0 : (0 : Int) ≤ (u : Int) := by omega
      have hkk : (k : Int) ≤ 1024 := by omega
      clear hmid hu hun
      go_wp2_with fail
      go_loopw [9, 12] (fun v9 v12 wx => ∃ (q : List Nat) (v gq cq : Nat) (ds : List Int), v9 = .slice (some ⟨gq, 0, none⟩) q.length cq ∧ v12 = .int .i64 v ∧ v ≤ n ∧ Hid (MidNow E n s k u v q ds P) ∧ Hid (BfsMem w wx n gq cq q ds)) (fun _ v12 _ => n - (intOf v12).toNat)
      case atStart => exact ⟨q, 0, gq, cq, ds, rfl, rfl, Nat.zero_le _, hidden ⟨HMID.out, hN.out.2.1, hN.out.2.2.1, hN.out.2.2.2, by omega, fun x hx => by omega⟩, hM⟩
      case round =>
        clear HMID hN hM c1 hlt2 hkq hqn
        obtain ⟨q, v, gq, cq, ds, rfl, rfl, hvn, hN, hM⟩ := hrel
        have hqn : (q.length : Int) ≤ n := by have := hN.out.2.1; omega
        by_cases hlt3 : (v : Int) < n
        case neg =>
          go_wp2_with fail
          go_roundw
          case rel => exact ⟨q, k + 1, gq, cq, ds, _, rfl, by go_num, hN.out.2.2.2.2.1, hidden ⟨hN.out.1.done (fun x hx => hN.out.2.2.2.2.2 x (Nat.lt_of_lt_of_le ((hE.out u x hx).2) (by omega)) hx), hN.out.2.1, hN.out.2.2.1, hN.out.2.2.2.1⟩, hM⟩
          case measure => have := hN.out.2.2.2.2.1; simp [intOf]; omega
        obtain ⟨y, hy⟩ : ∃ y : Nat, y = u * n := ⟨_, rfl⟩
        have hy1 : y + n ≤ NN := by
          have h1 : (u + 1) * n ≤ n * n := Nat.mul_le_mul_right n (by omega)
          rw [Nat.add_mul, Nat.one_mul] at h1
          have := HNN.out
          omega
        have hN1 : (NN : Int) ≤ 1048576 := by
          have : n * n ≤ 1024 * 1024 := Nat.mul_le_mul (by omega) (by omega)
          have := HNN.out
          omega
        have hy2 : (u : Int) * (n : Int) = y := by rw [hy]; simp
        have wy : IntKind.i64.wrap ((u : Int) * (n : Int)) = (y : Int) := by rw [hy2]; simp [IntKind.wrap, IntKind.bits, IntKind.signed]; omega
        obtain ⟨x, hx⟩ : ∃ x : Nat, x = y + v := ⟨_, rfl⟩
        have hxn : x < NN := by omega
        have x1 : (y : Int) + (v : Int) = x := by omega
        have x2 : IntKind.i64.wrap ((y : Int) + (v : Int)) = (x : Int) := by rw [x1]; simp [IntKind.wrap, IntKind.bits, IntKind.signed]; omega
        have x3 : (x : Int) < NN := by omega
        have x4 : (0 : Int) ≤ (x : Int) := by omega
        have bv0 : (0 : Int) ≤ (v : Int) := by omega
        have ca := (ha.out.below hM.out.2.2.2 ha.out.2.1).2.2 x hxn
        have hRx : bAt bs x = true ↔ (E) u v := by
          rw [hx, hy]
          exact hA.out.2 _ _ (by omega) (by omega)
        have cd := (hM.out.1.cellAt v (by omega)).trans (ints_get ds v (by have := hN.out.2.2.1; omega))
        rw [iAt_dAt ds v (by have := hN.out.2.2.1; omega)] at cd
        have cu := (hM.out.1.cellAt u (by omega)).trans (ints_get ds u (by have := hN.out.2.2.1; omega))
        rw [iAt_dAt ds u (by have := hN.out.2.2.1; omega)] at cu
        have fv := hM.out.1.frozenAt v
        obtain ⟨b, hb⟩ : ∃ b, b = bAt bs x := ⟨_, rfl⟩
        obtain ⟨dv, hdv⟩ : ∃ b, b = dAt ds v := ⟨_, rfl⟩
        obtain ⟨du, hdu⟩ : ∃ b, b = dAt ds u := ⟨_, rfl⟩
        rw [← hb] at ca hRx
        rw [← hdv] at cd
        rw [← hdu] at cu
        have du0 : 0 ≤ du := by rw [hdu]; exact hN.out.1.posU
        have du1 : du ≤ 1024 := by rw [hdu]; have := hN.out.1.small u; have := hN.out.2.2.1; omega
        have HR := hidden hRx
        have HDV := hidden hdv
        have HDU := hidden hdu
        clear hRx hb hdv hdu hy hy1 hy2 hx hxn x1
        cases b with
        | false =>
          go_wp2_with fail
          go_roundw
          case rel => exact ⟨q, v + 1, gq, cq, ds, rfl, by go_num, by omega, hidden (hN.out.skip fun h => by have := HR.out.2 h; cases this), hM⟩
          case measure => simp [intOf]; omega
        | true =>
          by_cases hd : dv < 0
          case neg =>
            go_wp2_with fail
            go_roundw
            case rel => exact ⟨q, v + 1, gq, cq, ds, rfl, by go_num, by omega, hidden (hN.out.skip fun h => by rw [← HDV.out]; omega), hM⟩
            case measure => simp [intOf]; omega
          have hM2 := hM.out.set v (du + 1)
          have M2 := hidden hM2
          have M3 := hidden (hM2.alloc (.cells #[.int .i64 (v : Int)] 3))
          have N2 := hidden (show MidNow E n s k u (v + 1) (q ++ [v]) (ds.set v (du + 1)) P by rw [HDU.out]; exact hN.out.put (by omega) (HR.out.1 rfl) (by rw [← HDV.out]; exact hd))
          have hnew : ∀ j u, [Value.int .i64 (v : Int)][j]? = some u → ((wr.setCell ⟨w.heap.size, v, none⟩ (.int .i64 (du + 1))).alloc (.cells #[.int .i64 (v : Int)] 3)).cell? ((⟨wr.heap.size, 0, none⟩ : Addr).add j) = some u := by
            have h1 := cell_one_new (wr.setCell ⟨w.heap.size, v, none⟩ (.int .i64 (du + 1))) (.int .i64 (v : Int)) 3
            rw [show (wr.setCell ⟨w.heap.size, v, none⟩ (.int .i64 (du + 1))).heap.size = wr.heap.size by simp] at h1
            exact h1
          have HNEW := hidden hnew
          clear hM2 hnew
          go_wp2_with (at_builtin; (refine wpList_append_own_at _ rfl _ _ 22 rfl w.heap.size 3 i3 (.int .i64 0) 1 8 Try.underlying22 hi3 z30 z31 z32 rfl (by decide) (.slice (some ⟨gq, 0, none⟩) q.length cq) q.length _ rfl M3.out.2.1 ⟨wr.heap.size, 0, none⟩ 1 1 [.int .i64 (v : Int)] rfl rfl HNEW.out (ints_oneCell .i64 [(v : Int)]) (by unfold maxLen; omega) (by omega) (M3.out.2.2.2.size) ?_); intro v' w2 hown' hgrow hnil hloc; obtain ⟨gq', cq', rfl⟩ := own_form hown')
          go_roundw
          case rel => exact ⟨q ++ [v], v + 1, gq', cq', ds.set v (du + 1), by simp, by go_num, by omega, N2, hidden (M3.out.pushed hown' hgrow hloc)⟩
          case measure => simp [intOf]; omega

end Go.Proofs.Qxb6612201a
