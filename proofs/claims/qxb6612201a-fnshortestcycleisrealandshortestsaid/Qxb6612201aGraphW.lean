/-
  WALK: scGraph.
-/
import Derived.Test.Qxb6612201aWellW
import Derived.Test.Qxb6612201aHist
import Derived.BigRegion
import Derived.BigQuiet
import Derived.WalkSmall
namespace Go.Proofs.Qxb6612201a
open Go.RowKit
set_option linter.unusedVariables false
set_option linter.unusedSimpArgs false

theorem Try.info4 : (Try.prog.info? 4).map (fun i => (i.zero, i.size, i.bytes)) = some (some (.bool false), 1, 1) := by kernel_rfl

theorem bools_get (bs : List Bool) (p : Nat) (hp : p < bs.length) : (bs.map Value.bool)[p]? = some (.bool (bAt bs p)) := by
  rw [List.getElem?_map, List.getElem?_eq_getElem hp]
  unfold bAt
  rw [List.getD_eq_getElem?_getD, List.getElem?_eq_getElem hp]
  rfl

theorem bools_set (bs : List Bool) (p : Nat) (x : Bool) : (bs.map Value.bool).set p (.bool x) = (bs.set p x).map Value.bool := by rw [List.map_set]

/-- The matrix as the call's own row. -/
def OwnsBs (w : World) (B g N : Nat) (bs : List Bool) : Prop := w.ownsRow B 4 1 (.slice (some ⟨g, 0, none⟩) N N) N (bs.map Value.bool)

def GraphPost (h : Hist) (m n : Nat) (w : World) (e : Ending) (w' : World) : Prop :=
  ∃ g bs, e = .returned (.slice (some ⟨g, 0, none⟩) (n * n) (n * n)) ∧ OwnsBs w' w.heap.size g (n * n) bs ∧ Adj (h.Edge m) n bs ∧ Below w.heap.size w w'

theorem Row.below {w w' : World} {q : IntKind} {a : Option Addr} {g n : Nat} {xs : List Int} (h : Row w q a g n xs) {B : Nat} (hb : Below B w w') (hB : w.heap.size ≤ B) : Row w' q a g n xs :=
  ⟨h.1, fun hn => by
    obtain ⟨h1, h2, h3⟩ := h.2 hn
    exact ⟨h1, Nat.lt_of_lt_of_le h2 hb.size, fun j hj => (hb.cell (p := ⟨g, j, none⟩) (Nat.lt_of_lt_of_le h2 hB)).trans (h3 j hj)⟩⟩

set_option maxHeartbeats 12800000 in
set_option maxRecDepth 100000 in
theorem graph_any (h : Hist) (ak at' al ah ao : Option Addr) (gk gt gl gh go m n ck ct cl ch co : Nat) (items s : Int) (w : World) (hm : (m : Int) ≤ 1000000) (hn : (n : Int) ≤ 1024)
    (hk : Hid (Row w .i64 ak gk m h.ks)) (ht : Hid (Row w .i64 at' gt m h.ts)) (hl : Hid (Row w .i64 al gl m h.los)) (hh : Hid (Row w .i64 ah gh m h.his)) (ho : Hid (Row w .i8 ao go n h.ocs)) (hW : Hid (WF m n items s h.ks h.ts h.los h.his)) :
    Calls Try.prog 7 #[.slice ak m ck, .slice at' m ct, .slice al m cl, .slice ah m ch, .slice ao n co, .int .i64 n] w fun e w' => GraphPost h m n w e w' := by
  obtain ⟨i4, hi4, z40, z41, z42⟩ := info_parts Try.info4
  obtain ⟨NN, hNN⟩ : ∃ x : Nat, x = n * n := ⟨_, rfl⟩
  have hNN' : (n : Int) * (n : Int) = NN := by rw [hNN]; simp
  have hN1 : (NN : Int) ≤ 1048576 := by
    have : n * n ≤ 1024 * 1024 := Nat.mul_le_mul (by omega) (by omega)
    omega
  have hwr : IntKind.i64.wrap ((n : Int) * (n : Int)) = NN := by rw [hNN']; simp [IntKind.wrap, IntKind.bits, IntKind.signed]; omega
  have HNN := hidden hNN
  clear hNN hNN'
  go_enter Try.func7, Try.ntmps7
  go_wp2_with (at_make; refine wpList_make_full _ rfl _ _ 27 rfl w.heap.size 4 i4 (.bool false) 1 Try.underlying27 hi4 z40 z41 .i64 .i64 _ _ NN rfl rfl rfl rfl (by rw [z42]; omega) (by unfold maxLen; omega) (Nat.le_refl _) ?_; intro w1 hown1 hgrow1)
  have hB1 := (Below.refl w.heap.size w).grown hgrow1 (Nat.le_refl _) (fun k hk => by cases hk)
  rw [show (madeCells (Value.bool false).cells (NN * 1)).toList = (List.replicate NN false).map Value.bool by rw [show (Value.bool false).cells = #[.bool false] from rfl, Nat.mul_one, toList_madeCells_one, List.map_replicate]] at hown1
  have HO := hidden (show OwnsBs w1 w.heap.size w.heap.size NN (List.replicate NN false) from hown1)
  have HB := hidden hB1
  clear hown1 hB1 hgrow1
  go_loopw [14] (fun v wr => ∃ (i : Nat) (bs : List Bool), v = .int .i64 i ∧ i ≤ m ∧ Hid (GraphAt h m n i 0 bs) ∧ Hid (OwnsBs wr w.heap.size w.heap.size NN bs) ∧ Hid (Below w.heap.size w wr)) (fun v _ => m - (intOf v).toNat)
  case atStart => exact ⟨0, _, rfl, Nat.zero_le _, hidden (by rw [HNN.out]; exact GraphAt.start h m n), HO, HB⟩
  case round =>
    obtain ⟨i, bs, rfl, him, hG, hO, hB⟩ := hrel
    by_cases hlt : (i : Int) < m
    case neg =>
      go_wp2_with fail
      go_returns
      have : i = m := by omega
      subst this
      have h1 := hO.out
      rw [HNN.out] at h1
      exact ⟨w.heap.size, bs, by rw [HNN.out]; rfl, h1, hG.out.final (fun i hi => ⟨(hW.out.ok i hi).1, (hW.out.ok i hi).2.1⟩), hB.out⟩
    obtain ⟨rfl, _, e1⟩ := (hk.out.below hB.out (Nat.le_refl _)).2 (by omega)
    obtain ⟨rfl, _, e2⟩ := (ht.out.below hB.out (Nat.le_refl _)).2 (by omega)
    obtain ⟨rfl, _, e3⟩ := (hl.out.below hB.out (Nat.le_refl _)).2 (by omega)
    obtain ⟨rfl, _, e4⟩ := (hh.out.below hB.out (Nat.le_refl _)).2 (by omega)
    have hti := hW.out.ok i (by omega)
    obtain ⟨rfl, _, e5⟩ := (ho.out.below hB.out (Nat.le_refl _)).2 (by have := hti.1; have := hti.2.1; omega)
    have b0 : (0 : Int) ≤ (i : Int) := by omega
    have k1 := e1 i (by omega)
    have k2 := e2 i (by omega)
    obtain ⟨ti, htt⟩ : ∃ x : Nat, iAt h.ts i = x := ⟨(iAt h.ts i).toNat, by have := hti.1; omega⟩
    have htn : (ti : Int) < n := by have := hti.2.1; omega
    have k5 := e5 ti (by omega)
    rw [htt] at k2
    obtain ⟨ki, hkk⟩ : ∃ x, x = iAt h.ks i := ⟨_, rfl⟩
    obtain ⟨oi, hoo⟩ : ∃ x, x = iAt h.ocs ti := ⟨_, rfl⟩
    rw [← hkk] at k1
    rw [← hoo] at k5
    have hAcc : h.Acc i ↔ (ki = 0 ∨ ki = 1) ∧ oi = 1 := by
      unfold Hist.Acc
      rw [htt, ← hkk, show ((ti : Int)).toNat = ti from rfl, ← hoo]
    have HA := hidden hAcc
    have HT := hidden htt
    have HK := hidden hkk
    have HO5 := hidden hoo
    have E1 := hidden e1
    have E2 := hidden e2
    have E3 := hidden e3
    have E4 := hidden e4
    have E5 := hidden e5
    clear hAcc htt hkk hoo e1 e2 e3 e4 e5 hti
    have bt0 : (0 : Int) ≤ (ti : Int) := by omega
    by_cases a1 : ki = 0 ∨ ki = 1
    case neg =>
      have t0 : (ki != 0) = true := by rw [bne_iff_ne]; omega
      have t1 : (ki != 1) = true := by rw [bne_iff_ne]; omega
      clear a1
      go_wp2_with fail
      go_roundw
      case rel => exact ⟨i + 1, bs, by go_num, by omega, hidden (hG.out.next (.inr ⟨by omega, fun h => by have := HA.out.1 h; rw [bne_iff_ne] at t0 t1; omega⟩)), hO, hB⟩
      case measure => simp [intOf]; omega
    by_cases a2 : oi = 1
    case neg =>
      have t2 : (oi != 1) = true := by rw [bne_iff_ne]; omega
      clear a2
      rcases a1 with rfl | rfl
      all_goals
        go_wp2_with fail
        go_roundw
        case rel => exact ⟨i + 1, bs, by go_num, by omega, hidden (hG.out.next (.inr ⟨by omega, fun h => by have := HA.out.1 h; rw [bne_iff_ne] at t2; omega⟩)), hO, hB⟩
        case measure => simp [intOf]; omega
    subst a2
    rcases a1 with a1 | a1
    · have t0 : (ki != 0) = false := by rw [a1]; rfl
      have t1 : (ki != 1) = true := by rw [a1]; rfl
      have KI := hidden a1
      clear a1
      go_wp2_with fail
      go_loopw [15] (fun v wx => ∃ (j : Nat) (bs : List Bool), v = .int .i64 j ∧ i + 1 ≤ j ∧ j ≤ m ∧ Hid (GraphAt h m n i j bs) ∧ Hid (OwnsBs wx w.heap.size w.heap.size NN bs) ∧ Hid (Below w.heap.size w wx)) (fun v _ => m - (intOf v).toNat)
      case atStart => exact ⟨i + 1, bs, by go_num, Nat.le_refl _, by omega, hidden hG.out.first, hO, hB⟩
      case round =>
        clear hG hO hB
        obtain ⟨j, bs, rfl, hij, hjm, hG, hO, hB⟩ := hrel
        by_cases hlt2 : (j : Int) < m
        case neg =>
          go_wp2_with fail
          go_roundw
          case rel => exact ⟨i + 1, bs, by go_num, by omega, hidden (hG.out.next (.inl (by omega))), hO, hB⟩
          case measure => simp [intOf]; omega
        obtain ⟨_, _, d1⟩ := (hk.out.below hB.out (Nat.le_refl _)).2 (by omega)
        obtain ⟨_, _, d2⟩ := (ht.out.below hB.out (Nat.le_refl _)).2 (by omega)
        obtain ⟨_, _, d3⟩ := (hl.out.below hB.out (Nat.le_refl _)).2 (by omega)
        obtain ⟨_, _, d4⟩ := (hh.out.below hB.out (Nat.le_refl _)).2 (by omega)
        obtain ⟨_, _, d5⟩ := (ho.out.below hB.out (Nat.le_refl _)).2 (by omega)
        have htj := hW.out.ok j (by omega)
        obtain ⟨tj, htt⟩ : ∃ x : Nat, iAt h.ts j = x := ⟨(iAt h.ts j).toNat, by have := htj.1; omega⟩
        have htjn : (tj : Int) < n := by have := htj.2.1; omega
        have btj : (0 : Int) ≤ (tj : Int) := by omega
        have bj0 : (0 : Int) ≤ (j : Int) := by omega
        have m1 := d1 i (by omega)
        have m2 := d2 i (by omega)
        have m3 := d3 i (by omega)
        have m4 := d4 i (by omega)
        have q1 := d1 j (by omega)
        have q2 := d2 j (by omega)
        have q3 := d3 j (by omega)
        have q4 := d4 j (by omega)
        have q5 := d5 tj (by omega)
        rw [HT.out] at m2
        rw [← HK.out] at m1
        rw [htt] at q2
        obtain ⟨kj, hkj⟩ : ∃ x, x = iAt h.ks j := ⟨_, rfl⟩
        obtain ⟨oj, hoj⟩ : ∃ x, x = iAt h.ocs tj := ⟨_, rfl⟩
        obtain ⟨li, hli⟩ : ∃ x, x = iAt h.los i := ⟨_, rfl⟩
        obtain ⟨lj, hlj⟩ : ∃ x, x = iAt h.los j := ⟨_, rfl⟩
        obtain ⟨hi, hhi⟩ : ∃ x, x = iAt h.his i := ⟨_, rfl⟩
        obtain ⟨hj, hhj⟩ : ∃ x, x = iAt h.his j := ⟨_, rfl⟩
        rw [← hkj] at q1
        rw [← hoj] at q5
        rw [← hli] at m3
        rw [← hlj] at q3
        rw [← hhi] at m4
        rw [← hhj] at q4
        have hC : h.Conf i j ↔ ((kj = 0 ∨ kj = 1) ∧ oj = 1) ∧ (tj : Int) ≠ ti ∧ (ki = 1 ∨ kj = 1) ∧ max li lj < min hi hj := by
          unfold Hist.Conf
          rw [show h.Acc j ↔ ((kj = 0 ∨ kj = 1) ∧ oj = 1) by unfold Hist.Acc; rw [htt, ← hkj, show ((tj : Int)).toNat = tj from rfl, ← hoj], htt, HT.out, ← HK.out, ← hkj, ← hli, ← hlj, ← hhi, ← hhj]
          exact ⟨fun h => h.2, fun h => ⟨HA.out.2 ⟨.inl KI.out, trivial⟩, h⟩⟩
        have HC := hidden hC
        have HTJ := hidden htt
        clear hC htt hkj hoj hli hlj hhi hhj d1 d2 d3 d4 d5 htj
        have hskip : Hid (¬ h.Conf i j → GraphAt h m n i (j + 1) bs) := hidden hG.out.skip
        by_cases a1 : kj = 0 ∨ kj = 1
        case neg =>
          have u0 : (kj != 0) = true := by rw [bne_iff_ne]; omega
          have u1 : (kj != 1) = true := by rw [bne_iff_ne]; omega
          go_wp2_with fail
          go_roundw
          case rel => exact ⟨j + 1, bs, by go_num, by omega, by omega, hidden (hskip.out fun hc => a1 (HC.out.1 hc).1.1), hO, hB⟩
          case measure => simp [intOf]; omega
        by_cases a2 : oj = 1
        case neg =>
          have u2 : (oj != 1) = true := by rw [bne_iff_ne]; omega
          rcases (show kj = 0 ∨ kj = 1 from a1) with rfl | rfl
          all_goals
            go_wp2_with fail
            go_quiet (fail)
            go_wp2_with fail
            go_roundw
            case rel => exact ⟨j + 1, bs, by go_num, by omega, by omega, hidden (hskip.out fun hc => a2 (HC.out.1 hc).1.2), hO, hidden (below_drewN hB.out _)⟩
            case measure => simp [intOf]; omega
        subst a2
        by_cases a3 : tj = ti
        · have u3 : ((tj : Int) == (ti : Int)) = true := by rw [beq_iff_eq]; omega
          have A3 := hidden a3
          clear a3
          rcases (show kj = 0 ∨ kj = 1 from a1) with rfl | rfl
          all_goals
            go_wp2_with fail
            go_quiet (fail)
            go_wp2_with fail
            go_roundw
            case rel => exact ⟨j + 1, bs, by go_num, by omega, by omega, hidden (hskip.out fun hc => (HC.out.1 hc).2.1 (by rw [A3.out])), hO, hidden (below_drewN hB.out _)⟩
            case measure => simp [intOf]; omega
        have u3 : ((tj : Int) == (ti : Int)) = false := by rw [beq_eq_false_iff_ne]; omega
        have A3 := hidden a3
        clear a3
        by_cases a4 : ki = 1 ∨ kj = 1
        case neg =>
          have v1 : (ki != 1) = true := by rw [bne_iff_ne]; omega
          have v2 : (kj != 1) = true := by rw [bne_iff_ne]; omega
          have v3 : (kj != 0) = false := by rw [bne_eq_false_iff_eq]; omega
          go_wp2_with fail
          go_quiet (fail)
          go_wp2_with fail
          go_roundw
          case rel => exact ⟨j + 1, bs, by go_num, by omega, by omega, hidden (hskip.out fun hc => a4 (HC.out.1 hc).2.2.1), hO, hidden (below_drewN hB.out _)⟩
          case measure => simp [intOf]; omega
        have A4 := hidden a4
        clear a4
        obtain ⟨A, hA1⟩ : ∃ A, A = max li lj := ⟨_, rfl⟩
        obtain ⟨Bv, hB1⟩ : ∃ A, A = min hi hj := ⟨_, rfl⟩
        have mx1 : (if li < lj then lj else li) = A := by rw [hA1]; split <;> omega
        have mn1 : (if hj < hi then hj else hi) = Bv := by rw [hB1]; split <;> omega
        have HAB := hidden (show (A < Bv) = (max li lj < min hi hj) by rw [hA1, hB1])
        obtain ⟨y, hy⟩ : ∃ y : Nat, y = ti * n := ⟨_, rfl⟩
        have hy1 : y + n ≤ NN := by
          have h1 : (ti + 1) * n ≤ n * n := Nat.mul_le_mul_right n (by omega)
          rw [Nat.add_mul, Nat.one_mul] at h1
          have := HNN.out
          omega
        have hy2 : (ti : Int) * (n : Int) = y := by rw [hy]; simp
        have wy : IntKind.i64.wrap ((ti : Int) * (n : Int)) = (y : Int) := by rw [hy2]; simp [IntKind.wrap, IntKind.bits, IntKind.signed]; omega
        obtain ⟨x, hx⟩ : ∃ x : Nat, x = y + tj := ⟨_, rfl⟩
        have hxn : x < NN := by omega
        have x1 : (y : Int) + (tj : Int) = x := by omega
        have x2 : IntKind.i64.wrap ((y : Int) + (tj : Int)) = (x : Int) := by rw [x1]; simp [IntKind.wrap, IntKind.bits, IntKind.signed]; omega
        have x3 : (x : Int) < NN := by omega
        have x4 : (0 : Int) ≤ (x : Int) := by omega
        have XN := hidden (show ((ti : Int)).toNat * n + ((tj : Int)).toNat < NN by simp; omega)
        have HXX := hidden (show x = ti * n + tj by omega)
        have cx := (hO.out.cellAt x (by omega)).trans (bools_get bs x (by rw [hG.out.len, ← HNN.out]; exact hxn))
        have fx := hO.out.frozenAt x
        obtain ⟨r1, g1⟩ := hO.out.stored x (.bool true)
        rw [bools_set] at r1
        have R1 := hidden (show OwnsBs (wr.setCell ⟨w.heap.size, x, none⟩ (.bool true)) w.heap.size w.heap.size NN (bs.set x true) from r1)
        have G1 := hidden g1
        clear hA1 hB1 hy hy1 hy2 hx hxn x1 r1 g1
        rcases a1 with a1 | a1
        · first
            | (exfalso; have := A4.out; have := KI.out; omega)
            | skip
          all_goals
            have u0 : (kj != 0) = false := by rw [a1]; rfl
            have u1 : (kj != 1) = true := by rw [a1]; rfl
            replace a1 : kj = 0 ∨ kj = 1 := .inl a1
            have A1 := hidden a1
            clear a1
            go_wp2_with fail
            go_quiet (fail)
            go_wp2_with fail
            go_quiet (fail)
            by_cases a5 : A < Bv
            case neg =>
              go_wp2_with fail
              go_roundw
              case rel => exact ⟨j + 1, bs, by go_num, by omega, by omega, hidden (hskip.out fun hc => a5 (by have := (HC.out.1 hc).2.2.2; rw [HAB.out]; exact this)), hO, hidden (below_drewN hB.out _)⟩
              case measure => simp [intOf]; omega
            have hput := hG.out.put (by omega) (by omega) (HC.out.2 ⟨⟨A1.out, trivial⟩, (by have := A3.out; omega), A4.out, by rw [← HAB.out]; exact a5⟩) (by rw [HT.out, HTJ.out, ← HNN.out]; exact XN.out)
            rw [HT.out, HTJ.out, show ((ti : Int)).toNat * n + ((tj : Int)).toNat = x from HXX.out.symm] at hput
            have HPUT := hidden hput
            clear hput
            go_wp2_with fail
            go_region
            go_wp2_with fail
            go_roundw
            case rel => exact ⟨j + 1, bs.set x true, by go_num, by omega, by omega, HPUT, hidden R1.out, hidden ((below_drewN hB.out _).grown (grown_set _ w.heap.size x _) (below_drewN hB.out _).size (fun k hk => by cases hk; exact Nat.le_refl _))⟩
            case measure => simp [intOf]; omega
        · have u0 : (kj != 0) = true := by rw [a1]; rfl
          have u1 : (kj != 1) = false := by rw [a1]; rfl
          replace a1 : kj = 0 ∨ kj = 1 := .inr a1
          have A1 := hidden a1
          clear a1
          go_wp2_with fail
          go_quiet (fail)
          go_wp2_with fail
          go_quiet (fail)
          by_cases a5 : A < Bv
          case neg =>
            go_wp2_with fail
            go_roundw
            case rel => exact ⟨j + 1, bs, by go_num, by omega, by omega, hidden (hskip.out fun hc => a5 (by have := (HC.out.1 hc).2.2.2; rw [HAB.out]; exact this)), hO, hidden (below_drewN hB.out _)⟩
            case measure => simp [intOf]; omega
          have hput := hG.out.put (by omega) (by omega) (HC.out.2 ⟨⟨A1.out, trivial⟩, (by have := A3.out; omega), A4.out, by rw [← HAB.out]; exact a5⟩) (by rw [HT.out, HTJ.out, ← HNN.out]; exact XN.out)
          rw [HT.out, HTJ.out, show ((ti : Int)).toNat * n + ((tj : Int)).toNat = x from HXX.out.symm] at hput
          have HPUT := hidden hput
          clear hput
          go_wp2_with fail
          go_region
          go_wp2_with fail
          go_roundw
          case rel => exact ⟨j + 1, bs.set x true, by go_num, by omega, by omega, HPUT, hidden R1.out, hidden ((below_drewN hB.out _).grown (grown_set _ w.heap.size x _) (below_drewN hB.out _).size (fun k hk => by cases hk; exact Nat.le_refl _))⟩
          case measure => simp [intOf]; omega
    · have t0 : (ki != 0) = true := by rw [a1]; rfl
      have t1 : (ki != 1) = false := by rw [a1]; rfl
      have KI := hidden a1
      clear a1
      go_wp2_with fail
      go_loopw [15] (fun v wx => ∃ (j : Nat) (bs : List Bool), v = .int .i64 j ∧ i + 1 ≤ j ∧ j ≤ m ∧ Hid (GraphAt h m n i j bs) ∧ Hid (OwnsBs wx w.heap.size w.heap.size NN bs) ∧ Hid (Below w.heap.size w wx)) (fun v _ => m - (intOf v).toNat)
      case atStart => exact ⟨i + 1, bs, by go_num, Nat.le_refl _, by omega, hidden hG.out.first, hO, hB⟩
      case round =>
        clear hG hO hB
        obtain ⟨j, bs, rfl, hij, hjm, hG, hO, hB⟩ := hrel
        by_cases hlt2 : (j : Int) < m
        case neg =>
          go_wp2_with fail
          go_roundw
          case rel => exact ⟨i + 1, bs, by go_num, by omega, hidden (hG.out.next (.inl (by omega))), hO, hB⟩
          case measure => simp [intOf]; omega
        obtain ⟨_, _, d1⟩ := (hk.out.below hB.out (Nat.le_refl _)).2 (by omega)
        obtain ⟨_, _, d2⟩ := (ht.out.below hB.out (Nat.le_refl _)).2 (by omega)
        obtain ⟨_, _, d3⟩ := (hl.out.below hB.out (Nat.le_refl _)).2 (by omega)
        obtain ⟨_, _, d4⟩ := (hh.out.below hB.out (Nat.le_refl _)).2 (by omega)
        obtain ⟨_, _, d5⟩ := (ho.out.below hB.out (Nat.le_refl _)).2 (by omega)
        have htj := hW.out.ok j (by omega)
        obtain ⟨tj, htt⟩ : ∃ x : Nat, iAt h.ts j = x := ⟨(iAt h.ts j).toNat, by have := htj.1; omega⟩
        have htjn : (tj : Int) < n := by have := htj.2.1; omega
        have btj : (0 : Int) ≤ (tj : Int) := by omega
        have bj0 : (0 : Int) ≤ (j : Int) := by omega
        have m1 := d1 i (by omega)
        have m2 := d2 i (by omega)
        have m3 := d3 i (by omega)
        have m4 := d4 i (by omega)
        have q1 := d1 j (by omega)
        have q2 := d2 j (by omega)
        have q3 := d3 j (by omega)
        have q4 := d4 j (by omega)
        have q5 := d5 tj (by omega)
        rw [HT.out] at m2
        rw [← HK.out] at m1
        rw [htt] at q2
        obtain ⟨kj, hkj⟩ : ∃ x, x = iAt h.ks j := ⟨_, rfl⟩
        obtain ⟨oj, hoj⟩ : ∃ x, x = iAt h.ocs tj := ⟨_, rfl⟩
        obtain ⟨li, hli⟩ : ∃ x, x = iAt h.los i := ⟨_, rfl⟩
        obtain ⟨lj, hlj⟩ : ∃ x, x = iAt h.los j := ⟨_, rfl⟩
        obtain ⟨hi, hhi⟩ : ∃ x, x = iAt h.his i := ⟨_, rfl⟩
        obtain ⟨hj, hhj⟩ : ∃ x, x = iAt h.his j := ⟨_, rfl⟩
        rw [← hkj] at q1
        rw [← hoj] at q5
        rw [← hli] at m3
        rw [← hlj] at q3
        rw [← hhi] at m4
        rw [← hhj] at q4
        have hC : h.Conf i j ↔ ((kj = 0 ∨ kj = 1) ∧ oj = 1) ∧ (tj : Int) ≠ ti ∧ (ki = 1 ∨ kj = 1) ∧ max li lj < min hi hj := by
          unfold Hist.Conf
          rw [show h.Acc j ↔ ((kj = 0 ∨ kj = 1) ∧ oj = 1) by unfold Hist.Acc; rw [htt, ← hkj, show ((tj : Int)).toNat = tj from rfl, ← hoj], htt, HT.out, ← HK.out, ← hkj, ← hli, ← hlj, ← hhi, ← hhj]
          exact ⟨fun h => h.2, fun h => ⟨HA.out.2 ⟨.inr KI.out, trivial⟩, h⟩⟩
        have HC := hidden hC
        have HTJ := hidden htt
        clear hC htt hkj hoj hli hlj hhi hhj d1 d2 d3 d4 d5 htj
        have hskip : Hid (¬ h.Conf i j → GraphAt h m n i (j + 1) bs) := hidden hG.out.skip
        by_cases a1 : kj = 0 ∨ kj = 1
        case neg =>
          have u0 : (kj != 0) = true := by rw [bne_iff_ne]; omega
          have u1 : (kj != 1) = true := by rw [bne_iff_ne]; omega
          go_wp2_with fail
          go_roundw
          case rel => exact ⟨j + 1, bs, by go_num, by omega, by omega, hidden (hskip.out fun hc => a1 (HC.out.1 hc).1.1), hO, hB⟩
          case measure => simp [intOf]; omega
        by_cases a2 : oj = 1
        case neg =>
          have u2 : (oj != 1) = true := by rw [bne_iff_ne]; omega
          rcases (show kj = 0 ∨ kj = 1 from a1) with rfl | rfl
          all_goals
            go_wp2_with fail
            go_quiet (fail)
            go_wp2_with fail
            go_roundw
            case rel => exact ⟨j + 1, bs, by go_num, by omega, by omega, hidden (hskip.out fun hc => a2 (HC.out.1 hc).1.2), hO, hidden (below_drewN hB.out _)⟩
            case measure => simp [intOf]; omega
        subst a2
        by_cases a3 : tj = ti
        · have u3 : ((tj : Int) == (ti : Int)) = true := by rw [beq_iff_eq]; omega
          have A3 := hidden a3
          clear a3
          rcases (show kj = 0 ∨ kj = 1 from a1) with rfl | rfl
          all_goals
            go_wp2_with fail
            go_quiet (fail)
            go_wp2_with fail
            go_roundw
            case rel => exact ⟨j + 1, bs, by go_num, by omega, by omega, hidden (hskip.out fun hc => (HC.out.1 hc).2.1 (by rw [A3.out])), hO, hidden (below_drewN hB.out _)⟩
            case measure => simp [intOf]; omega
        have u3 : ((tj : Int) == (ti : Int)) = false := by rw [beq_eq_false_iff_ne]; omega
        have A3 := hidden a3
        clear a3
        by_cases a4 : ki = 1 ∨ kj = 1
        case neg => exfalso; have := KI.out; omega
        have A4 := hidden a4
        clear a4
        obtain ⟨A, hA1⟩ : ∃ A, A = max li lj := ⟨_, rfl⟩
        obtain ⟨Bv, hB1⟩ : ∃ A, A = min hi hj := ⟨_, rfl⟩
        have mx1 : (if li < lj then lj else li) = A := by rw [hA1]; split <;> omega
        have mn1 : (if hj < hi then hj else hi) = Bv := by rw [hB1]; split <;> omega
        have HAB := hidden (show (A < Bv) = (max li lj < min hi hj) by rw [hA1, hB1])
        obtain ⟨y, hy⟩ : ∃ y : Nat, y = ti * n := ⟨_, rfl⟩
        have hy1 : y + n ≤ NN := by
          have h1 : (ti + 1) * n ≤ n * n := Nat.mul_le_mul_right n (by omega)
          rw [Nat.add_mul, Nat.one_mul] at h1
          have := HNN.out
          omega
        have hy2 : (ti : Int) * (n : Int) = y := by rw [hy]; simp
        have wy : IntKind.i64.wrap ((ti : Int) * (n : Int)) = (y : Int) := by rw [hy2]; simp [IntKind.wrap, IntKind.bits, IntKind.signed]; omega
        obtain ⟨x, hx⟩ : ∃ x : Nat, x = y + tj := ⟨_, rfl⟩
        have hxn : x < NN := by omega
        have x1 : (y : Int) + (tj : Int) = x := by omega
        have x2 : IntKind.i64.wrap ((y : Int) + (tj : Int)) = (x : Int) := by rw [x1]; simp [IntKind.wrap, IntKind.bits, IntKind.signed]; omega
        have x3 : (x : Int) < NN := by omega
        have x4 : (0 : Int) ≤ (x : Int) := by omega
        have XN := hidden (show ((ti : Int)).toNat * n + ((tj : Int)).toNat < NN by simp; omega)
        have HXX := hidden (show x = ti * n + tj by omega)
        have cx := (hO.out.cellAt x (by omega)).trans (bools_get bs x (by rw [hG.out.len, ← HNN.out]; exact hxn))
        have fx := hO.out.frozenAt x
        obtain ⟨r1, g1⟩ := hO.out.stored x (.bool true)
        rw [bools_set] at r1
        have R1 := hidden (show OwnsBs (wr.setCell ⟨w.heap.size, x, none⟩ (.bool true)) w.heap.size w.heap.size NN (bs.set x true) from r1)
        have G1 := hidden g1
        clear hA1 hB1 hy hy1 hy2 hx hxn x1 r1 g1
        rcases a1 with a1 | a1
        · first
            | (exfalso; have := A4.out; have := KI.out; omega)
            | skip
          all_goals
            have u0 : (kj != 0) = false := by rw [a1]; rfl
            have u1 : (kj != 1) = true := by rw [a1]; rfl
            replace a1 : kj = 0 ∨ kj = 1 := .inl a1
            have A1 := hidden a1
            clear a1
            go_wp2_with fail
            go_quiet (fail)
            go_wp2_with fail
            go_quiet (fail)
            by_cases a5 : A < Bv
            case neg =>
              go_wp2_with fail
              go_roundw
              case rel => exact ⟨j + 1, bs, by go_num, by omega, by omega, hidden (hskip.out fun hc => a5 (by have := (HC.out.1 hc).2.2.2; rw [HAB.out]; exact this)), hO, hidden (below_drewN hB.out _)⟩
              case measure => simp [intOf]; omega
            have hput := hG.out.put (by omega) (by omega) (HC.out.2 ⟨⟨A1.out, trivial⟩, (by have := A3.out; omega), A4.out, by rw [← HAB.out]; exact a5⟩) (by rw [HT.out, HTJ.out, ← HNN.out]; exact XN.out)
            rw [HT.out, HTJ.out, show ((ti : Int)).toNat * n + ((tj : Int)).toNat = x from HXX.out.symm] at hput
            have HPUT := hidden hput
            clear hput
            go_wp2_with fail
            go_region
            go_wp2_with fail
            go_roundw
            case rel => exact ⟨j + 1, bs.set x true, by go_num, by omega, by omega, HPUT, hidden R1.out, hidden ((below_drewN hB.out _).grown (grown_set _ w.heap.size x _) (below_drewN hB.out _).size (fun k hk => by cases hk; exact Nat.le_refl _))⟩
            case measure => simp [intOf]; omega
        · have u0 : (kj != 0) = true := by rw [a1]; rfl
          have u1 : (kj != 1) = false := by rw [a1]; rfl
          replace a1 : kj = 0 ∨ kj = 1 := .inr a1
          have A1 := hidden a1
          clear a1
          go_wp2_with fail
          go_quiet (fail)
          go_wp2_with fail
          go_quiet (fail)
          by_cases a5 : A < Bv
          case neg =>
            go_wp2_with fail
            go_roundw
            case rel => exact ⟨j + 1, bs, by go_num, by omega, by omega, hidden (hskip.out fun hc => a5 (by have := (HC.out.1 hc).2.2.2; rw [HAB.out]; exact this)), hO, hidden (below_drewN hB.out _)⟩
            case measure => simp [intOf]; omega
          have hput := hG.out.put (by omega) (by omega) (HC.out.2 ⟨⟨A1.out, trivial⟩, (by have := A3.out; omega), A4.out, by rw [← HAB.out]; exact a5⟩) (by rw [HT.out, HTJ.out, ← HNN.out]; exact XN.out)
          rw [HT.out, HTJ.out, show ((ti : Int)).toNat * n + ((tj : Int)).toNat = x from HXX.out.symm] at hput
          have HPUT := hidden hput
          clear hput
          go_wp2_with fail
          go_region
          go_wp2_with fail
          go_roundw
          case rel => exact ⟨j + 1, bs.set x true, by go_num, by omega, by omega, HPUT, hidden R1.out, hidden ((below_drewN hB.out _).grown (grown_set _ w.heap.size x _) (below_drewN hB.out _).size (fun k hk => by cases hk; exact Nat.le_refl _))⟩
          case measure => simp [intOf]; omega

end Go.Proofs.Qxb6612201a
