/-
  WALKS: slices.Values, AppendSeq, Collect at []writeOf.
-/
import Derived.Test.Qxb6612201aReachW
import Derived.RangeFuncBox
import Derived.RangeFuncLeaves
import Derived.RangeFuncGives
import Derived.RangeFuncNested
import Derived.Shelf.Abstract
import Derived.WalkKit
import Derived.OwnWalkIn
import Derived.TacticsInMore
import Derived.LoopNIn
import Derived.LoopIn
import Derived.Maps.AppendAt
namespace Go.Proofs.Qxb6612201a
open Go.RowKit Go.Shelf
set_option linter.unusedVariables false
set_option linter.unusedSimpArgs false
attribute [local go_sem] Oper.semAt_some

abbrev Tri := Int × Int × Int
def encT (x : Tri) : List Value := [.int .i64 x.1, .int .i64 x.2.1, .int .i64 x.2.2]
def aggT (x : Tri) : Value := .agg #[.int .i64 x.1, .int .i64 x.2.1, .int .i64 x.2.2]

set_option maxRecDepth 100000 in
set_option maxHeartbeats 2000000 in
/-- slices.Values's closure. -/
theorem values1_in (F : Fence) (n : Nat) (h45 : F.fn 45) (hro : F.round = none) (hn : 1 ≤ n) (l Bs n₀ b len cap : Nat) (zs : List Tri) (hlen : zs.length = len) (hreach : len ≤ 1000000) (hb : b < n₀) (J Jx : List Tri → World → Prop) (hJ : ∀ pre W W', J pre W → Turned [] W W' → J pre W')
    (hY : ∀ pre x W, J pre W → pre.length < len → YieldAt F (n - 1) Try.prog l #[aggT x] W fun e W' => (e = .returned (.bool true) ∧ J (pre ++ [x]) W' ∧ Below n₀ W W') ∨ (e = .returned (.bool false) ∧ Jx (pre ++ [x]) W'))
    (W : World) (hn₀ : n₀ ≤ W.heap.size) (hBs : W.cell? ⟨Bs, 0, none⟩ = some (.slice (some ⟨b, 0, none⟩) len cap)) (hc : ∀ j x, zs[j]? = some x → W.cell? ⟨b, j * 3, none⟩ = some (.int .i64 x.1) ∧ W.cell? ⟨b, j * 3 + 1, none⟩ = some (.int .i64 x.2.1) ∧ W.cell? ⟨b, j * 3 + 2, none⟩ = some (.int .i64 x.2.2)) (h0 : J [] W) :
    CallsIn F n Try.prog 45 #[.func (.yield l) #[] #[], .pointer (some ⟨Bs, 0, none⟩)] W fun e W' => (∃ v, e = .returned v) ∧ (J zs W' ∨ ∃ pre, Jx pre W') := by
  refine callsIn_of_wp Try.func45 rfl h45 ?_ hro
  simp only [Try.ntmps45, List.size_toArray, List.length_cons, List.length_nil, Nat.reduceAdd, Nat.reduceSub, Array.replicate_succ, Array.replicate_zero, List.push_toArray, List.append_toArray, List.nil_append, List.cons_append]
  gi_wp2
  gi_loopw [7] (fun i wr => ∃ k : Nat, k ≤ len ∧ i = .int .i64 k ∧ Hid (J (zs.take k) wr) ∧ Hid (Below n₀ W wr))
    (fun i _ => len - (intOf i).toNat)
  case atStart => exact ⟨0, Nat.zero_le _, rfl, hidden h0, hidden (Below.refl _ _)⟩
  case round =>
    obtain ⟨k, hk, rfl, hJs, hnx⟩ := hrel
    by_cases hlt : k < len
    · obtain ⟨x, hx⟩ : ∃ x, zs[k]? = some x := ⟨_, List.getElem?_eq_getElem (by omega)⟩
      obtain ⟨q1, q2, q3⟩ := hc k x hx
      have r1 := (hnx.out.cell (p := ⟨b, k * 3, none⟩) hb).trans q1
      have r2 := (hnx.out.cell (p := ⟨b, k * 3 + 1, none⟩) hb).trans q2
      have r3 := (hnx.out.cell (p := ⟨b, k * 3 + 2, none⟩) hb).trans q3
      clear q1 q2 q3
      have hsz := hnx.out.size
      have hT : Turned [] wr (wr.alloc (.cells #[.int .i64 x.1, .int .i64 x.2.1, .int .i64 x.2.2] 64)) := Turned.of_grown (World.grownBy_alloc wr _ none) [] (fun k hk => by cases hk)
      have hB := hidden (hnx.out.trans (hT.below (B := n₀) (by omega) (by simp)))
      obtain ⟨fn, tmps, assign, body, hy, hR⟩ := hY _ x _ (hJ _ _ _ hJs.out hT) (by rw [List.length_take]; omega)
      have HR := hidden hR
      clear hR hT hsz
      unfold aggT at hy
      gi_wp2
      refine HR.out.mono ?_
      rintro e W3 (⟨rfl, hJ3, hk3⟩ | ⟨rfl, hJx3⟩)
      · have HJ := hidden hJ3
        have HK := hidden hk3
        clear hJ3 hk3
        gi_wp2
        go_roundw
        case rel => exact ⟨k + 1, by omega, by simp, by
          rw [List.take_add_one, hx]
          exact HJ, hidden (hB.out.trans HK.out)⟩
        case measure => simp [intOf]; omega
      · gi_wp2
        refine bodyPost_ret (results_none rfl _ _ _) rfl ?_
        exact ⟨⟨_, rfl⟩, .inr ⟨_, hJx3⟩⟩
    · obtain rfl : k = len := by omega
      gi_wp2
      go_end0
      rw [List.take_of_length_le (by omega)] at hJs
      exact ⟨⟨_, rfl⟩, .inl hJs.out⟩

set_option maxRecDepth 100000 in
set_option maxHeartbeats 1000000 in
theorem values1_nil_in (F : Fence) (n : Nat) (h45 : F.fn 45) (hro : F.round = none) (l Bs : Nat) (J : List Tri → World → Prop) (W : World) (hBs : W.cell? ⟨Bs, 0, none⟩ = some (.slice none 0 0)) (h0 : J [] W) :
    CallsIn F n Try.prog 45 #[.func (.yield l) #[] #[], .pointer (some ⟨Bs, 0, none⟩)] W fun e W' => (∃ v, e = .returned v) ∧ J [] W' := by
  refine callsIn_of_wp Try.func45 rfl h45 ?_ hro
  simp only [Try.ntmps45, List.size_toArray, List.length_cons, List.length_nil, Nat.reduceAdd, Nat.reduceSub, Array.replicate_succ, Array.replicate_zero, List.push_toArray, List.append_toArray, List.nil_append, List.cons_append]
  gi_wp2
  gi_loopw [7] (fun i wr => i = .int .i64 0 ∧ J [] wr) (fun _ _ => 0)
  case atStart => exact ⟨rfl, h0⟩
  case round =>
    obtain ⟨rfl, hJs⟩ := hrel
    gi_wp2
    go_end0
    exact ⟨⟨_, rfl⟩, hJs⟩

/-- The slice value sv holds zs, in a block below n₀; or it is nil. -/
def TRow (n₀ : Nat) (W : World) (sv : Value) (zs : List Tri) : Prop :=
  (sv = .slice none 0 0 ∧ zs = []) ∨ ∃ b cap, sv = .slice (some ⟨b, 0, none⟩) zs.length cap ∧ b < n₀ ∧ ∀ j x, zs[j]? = some x → W.cell? ⟨b, j * 3, none⟩ = some (.int .i64 x.1) ∧ W.cell? ⟨b, j * 3 + 1, none⟩ = some (.int .i64 x.2.1) ∧ W.cell? ⟨b, j * 3 + 2, none⟩ = some (.int .i64 x.2.2)

theorem TRow.below {n₀ : Nat} {A B : World} (h : Below n₀ A B) {sv : Value} {zs : List Tri} : TRow n₀ A sv zs → TRow n₀ B sv zs
  | .inl e => .inl e
  | .inr ⟨b, cap, e, hb, hc⟩ => .inr ⟨b, cap, e, hb, fun j x hx =>
    ⟨(h.cell (p := ⟨b, j * 3, none⟩) hb).trans (hc j x hx).1, (h.cell (p := ⟨b, j * 3 + 1, none⟩) hb).trans (hc j x hx).2.1, (h.cell (p := ⟨b, j * 3 + 2, none⟩) hb).trans (hc j x hx).2.2⟩⟩

theorem values_stops (F : Fence) (n : Nat) (h45 : F.fn 45) (hro : F.round = none) (hn : 1 ≤ n) (Bs n₀ : Nat) (sv : Value) (zs : List Tri) (hreach : zs.length ≤ 1000000) (w : World) (hBs : Bs < w.heap.size) (hn₀ : n₀ ≤ w.heap.size)
    (hc : w.cell? ⟨Bs, 0, none⟩ = some sv) (hI : TRow n₀ w sv zs) :
    SeqStopsK F n Try.prog 45 #[.pointer (some ⟨Bs, 0, none⟩)] (fun x : Tri => #[aggT x]) (Below n₀) (fun ys => ys = zs) (fun _ => True) zs.length w := fun l J Jx W hW hA _ hY h0 => by
  have hc' := (hW.cell (p := ⟨Bs, 0, none⟩) hBs).trans hc
  have hsz := hW.size
  rcases hI.below (hW.mono hn₀) with ⟨rfl, rfl⟩ | ⟨b, cap, rfl, hb, hcs⟩
  · exact (values1_nil_in F n h45 hro l Bs J W hc' h0).mono fun e W' ⟨he, hj⟩ => ⟨he, .inl ⟨_, rfl, hj⟩⟩
  · refine (values1_in F n h45 hro hn l Bs n₀ b zs.length cap zs rfl hreach hb J Jx (fun pre X Y hX ht => hA pre X Y none hX ⟨ht.os, ht.tape, ht.output, ht.size, fun k hk _ => ht.block k hk (by simp)⟩ (fun r e => by cases e)) hY W (by omega) hc' hcs h0).mono ?_
    rintro e W' ⟨he, hj | ⟨pre, hj⟩⟩
    · exact ⟨he, .inl ⟨_, rfl, hj⟩⟩
    · exact ⟨he, .inr ⟨_, trivial, hj⟩⟩

theorem Try.enters45 : ∀ args w, (callFunc 45 args).run Try.prog w = .ok (.enter 45 args) w := enters_of Try.func45 (by kernel_rfl) rfl
theorem Try.enters53 : ∀ args w, (callFunc 53 args).run Try.prog w = .ok (.enter 53 args) w := enters_of Try.func53 (by kernel_rfl) rfl
theorem Try.info64 : (Try.prog.info? 64).map (fun i => (i.zero, i.size, i.bytes)) = some (some (.agg #[.int .i64 0, .int .i64 0, .int .i64 0]), 3, 24) := by kernel_rfl

theorem three_new (w : World) (x y z : Value) (t : TypeId) : ∀ j u, [x, y, z][j]? = some u → (w.alloc (.cells #[x, y, z] t)).cell? ((⟨w.heap.size, 0, none⟩ : Addr).add j) = some u := by
  intro j u hj
  have h1 := heap_alloc_new w (.cells #[x, y, z] t)
  have hadd : (⟨w.heap.size, 0, none⟩ : Addr).add j = ⟨w.heap.size, j, none⟩ := by unfold Addr.add; split <;> simp_all
  rw [hadd, cell_of_row _ _ j _ _ _ h1]
  simpa using hj

theorem own_form0 {w : World} {B e sz n : Nat} {v : Value} {xs : List Value} (h : w.ownsRow B e sz v (n + 1) xs) : ∃ g cap, v = .slice (some ⟨g, 0, none⟩) (n + 1) cap := by
  rcases h.2 with ⟨_, h0⟩ | ⟨g, cap, cur, hv, _⟩
  · omega
  · exact ⟨g, cap, hv⟩

/-- What AppendSeq has taken. -/
def SeqI (w : World) (pre : List Tri) (W : World) : Prop :=
  ∃ v, W.heap[w.heap.size]? = some (.cells #[v] 52 (0, 0)) ∧ W.ownsRow w.heap.size 64 3 v pre.length (pre.flatMap encT) ∧ Below w.heap.size w W

theorem SeqI.apart {w W : World} {v : Value} {n : Nat} {xs : List Value} (h : W.ownsRow w.heap.size 64 3 v n xs) {k : Nat} {o : Obj} (hk : W.heap[k]? = some o) (ho : ∀ cur, o ≠ .cells cur 64 (0, 0)) : v.ownBlock ≠ some k := fun e => by
  rcases h.2 with ⟨h0, _⟩ | ⟨g, cap, cur, hv, _, hg, _⟩
  · rw [h0] at e; cases e
  · rw [hv] at e
    have e2 : g = k := by simpa [Value.ownBlock] using e
    subst e2
    rw [hk] at hg
    cases hg
    exact ho cur rfl

theorem SeqI.own (w : World) (B : Nat) (hB : w.heap.size < B) : OwnFrom B (SeqI w) := fun s W W' row h hg hr => by
  obtain ⟨v, h1, h2, h3⟩ := h
  have hne : ∀ k o, W.heap[k]? = some o → (∃ cur t, o = .cells cur t (0, 0)) → some k ≠ row := fun k o hk ho e => by
    obtain ⟨_, o', ho', hc⟩ := hr k e.symm
    rw [hk] at ho'
    cases ho'
    obtain ⟨cur, t, rfl⟩ := ho
    cases hc
  refine ⟨v, (hg.block _ (Array.getElem?_eq_some_iff.1 h1).1 (hne _ _ h1 ⟨_, _, rfl⟩)).trans h1, ⟨h2.1, ?_⟩, h3.grown hg h3.size (fun k e => by have := (hr k e).1; omega)⟩
  rcases h2.2 with h0 | ⟨g, cap, cur, hv, hb, hgg, hrr⟩
  · exact .inl h0
  · exact .inr ⟨g, cap, cur, hv, hb, (hg.block g (Array.getElem?_eq_some_iff.1 hgg).1 (hne _ _ hgg ⟨_, _, rfl⟩)).trans hgg, hrr⟩

set_option maxRecDepth 100000 in
set_option maxHeartbeats 2000000 in
theorem appendSeq_in (F : Fence) (n : Nat) (h45 : F.fn 45) (h53 : F.fn 53) (hro : F.round = none) (hn : 3 ≤ n) (Bs : Nat) (sv : Value) (zs : List Tri) (hreach : zs.length ≤ 1000000) (w : World) (hBs : Bs < w.heap.size)
    (hc : w.cell? ⟨Bs, 0, none⟩ = some sv) (hI : TRow w.heap.size w sv zs) :
    CallsIn F n Try.prog 53 #[.slice none 0 0, .func (.func 45) #[] #[.pointer (some ⟨Bs, 0, none⟩)]] w fun e w' => ∃ v, e = .returned v ∧ w'.ownsRow w.heap.size 64 3 v zs.length (zs.flatMap encT) ∧ Below w.heap.size w w' := by
  have h1 : 1 ≤ n := by omega
  obtain ⟨i0, hi, hz0, hz1, hz2⟩ := info_parts Try.info64
  refine callsIn_of_wp_marks Try.func53 rfl h53 ?_ hro
  simp only [Try.ntmps53, List.size_toArray, List.length_cons, List.length_nil, Nat.reduceAdd, Nat.reduceSub, Array.replicate_succ, Array.replicate_zero, List.push_toArray, List.append_toArray, List.nil_append, List.cons_append]
  gi_wp2
  have hT0 : Turned [] w (w.alloc (.cells #[.slice none 0 0] 52)) := Turned.of_grown (World.grownBy_alloc w _ none) [] (fun k hk => by cases hk)
  have hB0 : Below w.heap.size w (w.alloc (.cells #[.slice none 0 0] 52)) := hT0.below (Nat.le_refl _) (by simp)
  refine wpIn_rangeFunc_ownH hro h1 (gf := 45) (lb := #[.pointer (some ⟨Bs, 0, none⟩)]) rfl h45 Try.enters45
    (values_stops F (n - 1) h45 hro (by omega) Bs w.heap.size sv zs hreach (w.alloc (.cells #[.slice none 0 0] 52)) (by simp; omega) (by simp) ((hB0.cell (p := ⟨Bs, 0, none⟩) hBs).trans hc) (hI.below hB0)) belowK_t (belowK_b (by simp)) (Below.refl _ _) (fun _ => rfl)
    (SeqI w) (fun _ _ _ => False) (SeqI.own w _ (by simp)) (fun _ _ _ _ _ h _ _ => h)
    ⟨.slice none 0 0, heap_alloc_new w _, ⟨by simp, .inl ⟨rfl, rfl⟩⟩, hB0⟩
    (fun x a' W => ∃ bx, a' = { tmps := #[.slice none 0 0, .func (.func 45) #[] #[.pointer (some ⟨Bs, 0, none⟩)], .pointer (some ⟨w.heap.size, 0, none⟩), undef, .slice none 0 0, .pointer (some ⟨bx, 0, none⟩), .func (.func 45) #[] #[.pointer (some ⟨Bs, 0, none⟩)], aggT x, undef, undef, undef, undef, undef], defers := [] } ∧ W.heap[bx]? = some (.cells #[.int .i64 x.1, .int .i64 x.2.1, .int .i64 x.2.2] 64 (0, 0)))
    ?ax ?assign ?body ?done ?stop
  case ax =>
    rintro x a' _ W W' row ⟨bx, h2, h3⟩ hg hr
    refine ⟨bx, h2, (hg.block bx (Array.getElem?_eq_some_iff.1 h3).1 (fun e => ?_)).trans h3⟩
    obtain ⟨_, o', ho', hc'⟩ := hr bx e.symm
    rw [h3] at ho'
    cases ho'
    cases hc'
  case assign =>
    intro l pre x W K hIW hK
    unfold aggT
    gi_wp2
    have hIW' := hIW
    obtain ⟨_, _, _, hb⟩ := hIW'
    exact hK _ _ ⟨by simp, fun k o _ hk _ => (heap_alloc_old W _ (Array.getElem?_eq_some_iff.1 hk).1).trans hk⟩ ((Below.refl _ W).alloc hb.size _) ((SeqI.own w (w.heap.size + 1) (by omega)).alloc _ hIW) ⟨W.heap.size, rfl, heap_alloc_new W _⟩
  case body =>
    rintro l pre x a' W hl hr hIW ⟨bx, rfl, hbx⟩ hlen
    obtain ⟨v, hv, hown, hbel⟩ := hIW
    have c0 := cell_of_row W w.heap.size 0 _ _ _ hv
    have c1 := cell_of_row W bx 0 _ _ _ hbx
    have c2 := cell_of_row W bx 1 _ _ _ hbx
    have c3 := cell_of_row W bx 2 _ _ _ hbx
    simp only [List.getElem?_toArray, List.getElem?_cons_zero, List.getElem?_cons_succ] at c0 c1 c2 c3
    have HV := hidden hv
    have HO := hidden hown
    have HB := hidden hbel
    clear hv hown hbel hbx hr
    have hlw : w.heap.size < W.heap.size := (Array.getElem?_eq_some_iff.1 HV.out).1
    gi_wp2_with (
      gi_at_builtin
      refine wpListIn_append_own _ rfl _ _ 52 rfl w.heap.size 64 i0 (.agg #[.int .i64 0, .int .i64 0, .int .i64 0]) 3 24 Try.underlying52 hi hz0 hz1 hz2 rfl (by decide) _ _ _ rfl (HO.out.alloc _) ⟨W.heap.size, 0, none⟩ 1 1 (encT x) rfl rfl (three_new W _ _ _ _) (by simp [encT, Value.oneCell']) (by unfold maxLen; omega) (by omega) (by simp; omega) ?_
      intro v' w3 hown' hg3 hnil3
      have hg3' : (W.alloc (.cells #[.int .i64 x.1, .int .i64 x.2.1, .int .i64 x.2.2] 64)).grownBy w3 v.ownBlock := hg3
      have hg4 := (World.grownBy_alloc W (.cells #[.int .i64 x.1, .int .i64 x.2.1, .int .i64 x.2.2] 64) v.ownBlock).trans hg3'
      have hv3 : w3.heap[w.heap.size]? = some (.cells #[v] 52 (0, 0)) := (hg4.block _ hlw (fun e => SeqI.apart HO.out HV.out (fun cur e => by cases e) e.symm)).trans HV.out
      have c4 := cell_of_row w3 w.heap.size 0 _ _ _ hv3
      have f4 := frozen_of_row w3 w.heap.size 0 _ _ hv3
      simp only [List.getElem?_toArray, List.getElem?_cons_zero] at c4
      obtain ⟨g', cap', rfl⟩ := own_form0 hown'
      have H3 := hidden (And.intro hown' (And.intro hg4 hv3))
      clear hown' hg3 hg3' hg4 hv3 hnil3)
    obtain ⟨hown', hg4, hv3⟩ := H3.out
    have gs := grown_set w3 w.heap.size 0 (Value.slice (some ⟨g', 0, none⟩) (pre.length + 1) cap')
    refine ⟨⟨Nat.le_trans hg4.size gs.size, fun k o hk hko ho => ?_⟩, ?_, ⟨.slice (some ⟨g', 0, none⟩) (pre.length + 1) cap', ?_, ?_, ?_⟩⟩
    · have hne : k ≠ w.heap.size := fun e => by
        subst e
        rw [HV.out] at hko
        cases hko
        cases ho
      rw [heap_setCell_other w3 _ k _ hne, hg4.block k (Array.getElem?_eq_some_iff.1 hko).1 (fun e => SeqI.apart HO.out hko (fun cur e => by subst e; cases ho) e.symm)]
      exact hko
    · exact ((Below.refl _ W).grown hg4 HB.out.size (fun k e => (HO.out.lt k e).1)).grown gs (Nat.le_trans HB.out.size hg4.size) (fun k e => by cases e; exact Nat.le_refl _)
    · exact heap_setCell_same w3 w.heap.size 0 _ 52 _ hv3
    · rw [List.length_append, List.flatMap_append]
      refine hown'.kept gs (.inr fun e => ?_)
      exact SeqI.apart hown' hv3 (fun cur e => by cases e) e
    · exact (HB.out.grown hg4 HB.out.size (fun k e => (HO.out.lt k e).1)).grown gs (Nat.le_trans HB.out.size hg4.size) (fun k e => by cases e; exact Nat.le_refl _)
  case done =>
    rintro D ys W hD rfl hIW hK
    obtain ⟨v, hv, hown, hbel⟩ := hIW
    have c0 := cell_of_row W w.heap.size 0 _ _ _ hv
    simp only [List.getElem?_toArray, List.getElem?_cons_zero] at c0
    have HO := hidden hown
    have HB := hidden hbel
    clear hv hown hbel
    gi_wp2
    refine ⟨by simp, .inl ⟨_, _, rfl, run_takeDeferred hK, ?_⟩⟩
    refine ⟨_, results_tmp rfl _ _ _, v, rfl, ?_, HB.out.trans (belowK_b (w := w) (Nat.le_refl _) W D _ _ (by simp at hD; omega) hK rfl rfl)⟩
    exact HO.out.kept (grownBy_putObj' _ D _) (.inr (SeqI.apart HO.out hK (fun cur e => by cases e)))
  case stop =>
    rintro D c pre W _ _ h _
    exact h.elim

set_option maxHeartbeats 1000000 in
theorem collect_in (F : Fence) (n : Nat) (h43 : F.fn 43) (h45 : F.fn 45) (h53 : F.fn 53) (hro : F.round = none) (hn : 4 ≤ n) (Bs : Nat) (sv : Value) (zs : List Tri) (hreach : zs.length ≤ 1000000) (w : World) (hBs : Bs < w.heap.size)
    (hc : w.cell? ⟨Bs, 0, none⟩ = some sv) (hI : TRow w.heap.size w sv zs) :
    CallsIn F n Try.prog 43 #[.func (.func 45) #[] #[.pointer (some ⟨Bs, 0, none⟩)]] w fun e w' => ∃ v, e = .returned v ∧ w'.ownsRow w.heap.size 64 3 v zs.length (zs.flatMap encT) ∧ Below w.heap.size w w' := by
  have h1 : 1 ≤ n := by omega
  have e53 := Try.enters53
  refine callsIn_of_wp Try.func43 rfl h43 ?_ hro
  simp only [Try.ntmps43, List.size_toArray, List.length_cons, List.length_nil, Nat.reduceAdd, Nat.reduceSub, Array.replicate_succ, Array.replicate_zero, List.push_toArray, List.append_toArray, List.nil_append, List.cons_append]
  gi_wp2_with (gi_at_call 53; refine (appendSeq_in F (n - 1) h45 h53 hro (by omega) Bs sv zs hreach _ hBs hc hI).mono ?_; rintro e w' ⟨v, rfl, hrow, hb⟩)
  go_ret
  exact ⟨v, rfl, hrow, hb⟩

/-- slices.Collect(slices.Values(s)). -/
theorem collect_any (Bs : Nat) (sv : Value) (zs : List Tri) (hreach : zs.length ≤ 1000000) (w : World) (hBs : Bs < w.heap.size) (hc : w.cell? ⟨Bs, 0, none⟩ = some sv) (hI : TRow w.heap.size w sv zs) :
    Calls Try.prog 43 #[.func (.func 45) #[] #[.pointer (some ⟨Bs, 0, none⟩)]] w fun e w' => ∃ v, e = .returned v ∧ w'.ownsRow w.heap.size 64 3 v zs.length (zs.flatMap encT) ∧ Below w.heap.size w w' :=
  (collect_in { fn := fun _ => True } 4 trivial trivial trivial rfl (by decide) Bs sv zs hreach w hBs hc hI).calls (fun k => by simp [Fence.room])

end Go.Proofs.Qxb6612201a
