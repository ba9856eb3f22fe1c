/-
  THE WALK OVER FnInt32AtReadsBackItsEncoding.
-/
import Derived.Test.Qxb6612278aInt32
import Derived.Deep.AppendLies
namespace Go.Proofs.Qxb6612278a
open Go.RowKit

theorem Try.info5' : (Try.prog.info? 5).map (fun i => (i.zero, i.size, i.bytes)) = some (some (.int .u8 0), 1, 1) := by kernel_rfl

/-- The slice value v is the call's own (its block from 'base' on) and holds the bytes l. -/
def Buf (base : Nat) (W : World) (v : Value) (l : List Int) : Prop := W.ownsRow base 5 1 v l.length (l.map (Value.int .u8))

theorem Buf.alloc {base : Nat} {W : World} {v : Value} {l : List Int} (h : Buf base W v l) (o : Obj) : Buf base (W.alloc o) v l := World.ownsRow.alloc h o

theorem ints_one' (l : List Int) : ∀ u ∈ l.map (Value.int .u8), u.oneCell' = true := by
  intro u hu
  obtain ⟨b, _, rfl⟩ := List.mem_map.1 hu
  rfl

theorem buf_make (W : World) {ops : Array Oper} {rest : List Oper} {o : Oper} {a : Act} {Q : Exit → Act → World → Prop}
    (hg : o.guard = none) (l c : Operand) (hop : o.op = Op.makeSlice 26 l c) (base : Nat) (C : Int) (n : Nat)
    (hl : a.eval l = .int .i64 0) (hc : a.eval c = .int .i64 C) (hC : C = (n : Int)) (hn : n ≤ 100000000) (hb : base ≤ W.heap.size)
    (hK : ∀ v' w', Buf base w' v' [] → Below base W w' → wpList Try.prog ops Q rest (a.put o.dst v') w') :
    wpList Try.prog ops Q (o :: rest) a W := by
  obtain ⟨i0, hi, hz0, hz1, hz2⟩ := info_parts Try.info5'
  refine wpList_make_own W hg l c 26 hop base 5 i0 (.int .u8 0) 1 Try.underlying26 hi hz0 hz1 .i64 .i64 C n hl hc hC (by rw [hz2]; omega) (by unfold maxLen; omega) hb ?_
  intro w' hown hgrow
  exact hK _ w' hown ((Below.refl base W).grown hgrow hb (fun k hk => by cases hk))

theorem buf_append (W : World) {ops : Array Oper} {rest : List Oper} {o : Oper} {a : Act} {Q : Exit → Act → World → Prop}
    (hg : o.guard = none) (s x : Operand) (hop : o.op = Op.call { callee := Callee.builtin Builtin.append, args := #[s, x], argTypes := #[26, 26] })
    (base : Nat) (v : Value) (l : List Int) (hs : a.eval s = v) (hown : Buf base W v l) (ad : Addr) (m c : Nat) (news : List Int) (hx : a.eval x = .slice (some ad) m c) (hm : news.length = m)
    (hnews : ∀ j u, (news.map (Value.int .u8))[j]? = some u → W.cell? (ad.add j) = some u) (hlen : l.length + m ≤ 100000000) (hb : base ≤ W.heap.size)
    (hK : ∀ v' w', Buf base w' v' (l ++ news) → Below base W w' → wpList Try.prog ops Q rest (a.put o.dst v') w') :
    wpList Try.prog ops Q (o :: rest) a W := by
  obtain ⟨i0, hi, hz0, hz1, hz2⟩ := info_parts Try.info5'
  refine wpList_append_own W hg s x 26 hop base 5 i0 (.int .u8 0) 1 1 Try.underlying26 hi hz0 hz1 hz2 rfl (by decide) v l.length (l.map (Value.int .u8)) hs hown ad m c (news.map (Value.int .u8)) hx (by rw [List.length_map]; omega) hnews (ints_one' _) (by unfold maxLen; omega) (by omega) hb ?_
  intro v' w' hown' hgrow _
  refine hK v' w' ?_ ((Below.refl base W).grown hgrow hb (fun k hk => (World.ownsRow.lt hown k hk).1))
  unfold Buf
  rw [List.map_append, List.length_append, hm]
  exact hown'

theorem cells_new (w : World) (cs : List Value) (t : TypeId) : ∀ j u, cs[j]? = some u → (w.alloc (.cells cs.toArray t)).cell? ((⟨w.heap.size, 0, none⟩ : Addr).add j) = some u := by
  intro j u hj
  have hh : (w.alloc (.cells cs.toArray t)).heap[w.heap.size]? = some (.cells cs.toArray t (0, 0)) := heap_alloc_new w _
  rw [Addr.add_lit, Nat.zero_add]
  unfold World.cell?
  dsimp only
  rw [hh]
  simpa using hj

theorem buf_four {base : Nat} {w : World} {v : Value} {c0 c1 c2 c3 : Int} {r : List Int} (h : Buf base w v (c0 :: c1 :: c2 :: c3 :: r)) :
    ∃ g cap n, v = .slice (some ⟨g, 0, none⟩) n cap ∧ base ≤ g ∧ g < w.heap.size ∧ n ≤ cap ∧ (4 : Int) ≤ n ∧ w.cell? ⟨g, 0, none⟩ = some (.int .u8 c0) ∧ w.cell? ⟨g, 0 + 1, none⟩ = some (.int .u8 c1) ∧ w.cell? ⟨g, 0 + 2, none⟩ = some (.int .u8 c2) ∧ w.cell? ⟨g, 0 + 3, none⟩ = some (.int .u8 c3) := by
  unfold Buf at h
  obtain ⟨hl, ⟨_, h0⟩ | ⟨g, cap, cur, rfl, hb, hg, hnc, hcm, hcs, htk⟩⟩ := id h
  · simp at h0
  refine ⟨g, cap, _, rfl, hb, (Array.getElem?_eq_some_iff.1 hg).1, hnc, by simp only [List.length_cons]; omega, ?_, ?_, ?_, ?_⟩
  · rw [h.cellAt 0 (by simp)]; rfl
  · rw [h.cellAt 1 (by simp)]; rfl
  · rw [h.cellAt 2 (by simp)]; rfl
  · rw [h.cellAt 3 (by simp)]; rfl

theorem int32At_is (X : Int) (g off len cap : Nat) (c0 c1 c2 c3 : Int) (w : World) (hX : wrap32 (c0 * 16777216 + c1 * 65536 + c2 * 256 + c3) = X) (hg : g < w.heap.size) (hlen : (4 : Int) ≤ len)
    (h0 : w.cell? ⟨g, off, none⟩ = some (.int .u8 c0)) (h1 : w.cell? ⟨g, off + 1, none⟩ = some (.int .u8 c1)) (h2 : w.cell? ⟨g, off + 2, none⟩ = some (.int .u8 c2)) (h3 : w.cell? ⟨g, off + 3, none⟩ = some (.int .u8 c3))
    (b00 : 0 ≤ c0) (b01 : c0 ≤ 255) (b10 : 0 ≤ c1) (b11 : c1 ≤ 255) (b20 : 0 ≤ c2) (b21 : c2 ≤ 255) (b30 : 0 ≤ c3) (b31 : c3 ≤ 255) :
    Calls Try.prog 9 #[.slice (some ⟨g, off, none⟩) len cap] w fun e w' => e = .returned (.int .i32 X) ∧ Below w.heap.size w w' := by
  rw [← hX]
  exact int32At_any g off len cap c0 c1 c2 c3 w hg hlen h0 h1 h2 h3 b00 b01 b10 b11 b20 b21 b30 b31

theorem four_bytes (X U : Int) (h0 : 0 ≤ U) (h1 : U < 4294967296) (hU : (U = X ∧ U < 2147483648) ∨ (U = X + 4294967296 ∧ 2147483648 ≤ U)) :
    wrap32 (U / 16777216 * 16777216 + U / 65536 % 256 * 65536 + U / 256 % 256 * 256 + U % 256) = X ∧ 0 ≤ U / 16777216 ∧ U / 16777216 ≤ 255 ∧ 0 ≤ U / 65536 % 256 ∧ U / 65536 % 256 ≤ 255 ∧ 0 ≤ U / 256 % 256 ∧ U / 256 % 256 ≤ 255 ∧ 0 ≤ U % 256 ∧ U % 256 ≤ 255 := by
  have e : U / 16777216 * 16777216 + U / 65536 % 256 * 65536 + U / 256 % 256 * 256 + U % 256 = U := by omega
  rw [e]
  refine ⟨?_, by omega, by omega, by omega, by omega, by omega, by omega, by omega, by omega⟩
  unfold wrap32
  omega

set_option maxRecDepth 100000 in
set_option maxHeartbeats 1600000 in
theorem back_neg (X : Int) (a : Option Addr) (len cap : Nat) (zs : List Int) (w : World) (hx0 : -2147483648 ≤ X) (hx1 : X < 0) (hl20 : len ≤ 1048576) (HZL : Hid (zs.length = len))
    (HA : Hid (0 < len → ∃ b off, a = some ⟨b, off, none⟩ ∧ b < w.heap.size ∧ ∀ j, j < len → w.cell? ⟨b, off + j, none⟩ = some (.int .u8 (zs.getD j 0)))) :
    Calls Try.prog 5 #[.int .i32 X, .slice a len cap] w fun e w' => e = .returned (.bool true) ∧ Below w.heap.size w w' := by
  have h20 : decide (len ≤ 1048576) = true := by simp; omega
  obtain ⟨hX, p0, p1, p2, p3, p4, p5, p6, p7⟩ := four_bytes X (X + 4294967296) (by omega) (by omega) (Or.inr ⟨rfl, by omega⟩)
  have HX := hidden hX
  clear hX
  go_enter Try.func5, Try.ntmps5
  go_wp2_with (first
    | (go_at_call 10; refine (bytes10_any _ _ _ _ _ (by unfold maxLen; omega)).mono ?_; rintro e w' ⟨rfl, rfl⟩)
    | (at_make; refine buf_make _ rfl _ _ rfl w.heap.size _ (4 + len) rfl rfl (by omega) (by omega) (Nat.le_refl _) ?_; intro v1 w1 hb1 hw1)
    | (at_builtin; refine buf_append _ rfl _ _ rfl w.heap.size _ _ rfl (hb1.alloc _) ⟨w1.heap.size, 0, none⟩ 4 4 [(X + 4294967296) / 16777216, (X + 4294967296) / 65536 % 256, (X + 4294967296) / 256 % 256, (X + 4294967296) % 256] rfl rfl (cells_new w1 _ 5) (by decide) (by have := hw1.size; simp; omega) ?_; intro v2 w2 hb2 hw2))
  have hw3 : Below w.heap.size w w2 := (hw1.alloc hw1.size _).trans hw2
  clear hw1 hw2 hb1
  go_loopw [6, 7] (fun v i wr => ∃ k : Nat, k ≤ len ∧ i = .int .i64 k ∧ Buf w.heap.size wr v ([(X + 4294967296) / 16777216, (X + 4294967296) / 65536 % 256, (X + 4294967296) / 256 % 256, (X + 4294967296) % 256] ++ zs.take k) ∧ Below w.heap.size w wr) (fun _ i _ => len - (intOf i).toNat)
  case atStart => exact ⟨0, Nat.zero_le _, rfl, hb2, hw3⟩
  case round =>
    clear hb2 hw3
    obtain ⟨k, hk, rfl, hb, hw⟩ := hrel
    have hz := hw.size
    have hln : (zs.take k).length ≤ k := List.length_take_le _ _
    by_cases hlt : k < len
    · obtain ⟨b, off, rfl, hbl, hcs⟩ := HA.out (by omega)
      have hck : wr.cell? ⟨b, off + k, none⟩ = some (.int .u8 (zs.getD k 0)) := (hw.cell (by exact hbl)).trans (hcs k hlt)
      have HT : Hid (zs.take (k + 1) = zs.take k ++ [zs.getD k 0]) := by
        unfold Hid
        have hkz : k < zs.length := by rw [HZL.out]; exact hlt
        rw [List.take_succ_eq_append_getElem hkz]
        simp [List.getD, hkz]
      generalize zs.getD k 0 = y at *
      clear hcs
      go_wp2_with (at_builtin; refine buf_append _ rfl _ _ rfl w.heap.size _ _ rfl (hb.alloc _) ⟨wr.heap.size, 0, none⟩ 1 1 [y] rfl rfl (cells_new wr _ 5) (by simp only [List.length_append, List.length_cons, List.length_nil]; omega) (by simp; omega) ?_; intro v4 w4 hb4 hw4)
      go_roundw
      case rel =>
        refine ⟨k + 1, by omega, by go_num, ?_, (hw.alloc hz _).trans hw4⟩
        rw [HT.out, ← List.append_assoc]
        exact hb4
      case measure => simp [intOf]; omega
    · obtain ⟨g, gc, n, rfl, hgb, hgl, hgc, hg4, d0, d1, d2, d3⟩ := buf_four hb
      have HB := hidden hb
      have HW := hidden hw
      clear hb hw
      generalize (X + 4294967296) / 16777216 = e0 at *
      generalize (X + 4294967296) / 65536 % 256 = e1 at *
      generalize (X + 4294967296) / 256 % 256 = e2 at *
      generalize (X + 4294967296) % 256 = e3 at *
      go_wp2_with fail
      refine (int32At_is X g 0 n gc e0 e1 e2 e3 _ HX.out hgl hg4 d0 d1 d2 d3 p0 p1 p2 p3 p4 p5 p6 p7).mono ?_
      rintro e w5 ⟨rfl, hw5⟩
      have f0 := (hw5.cell (p := ⟨g, 0, none⟩) hgl).trans d0
      have f1 := (hw5.cell (p := ⟨g, 0 + 1, none⟩) hgl).trans d1
      have f2 := (hw5.cell (p := ⟨g, 0 + 2, none⟩) hgl).trans d2
      have f3 := (hw5.cell (p := ⟨g, 0 + 3, none⟩) hgl).trans d3
      have hz5 := hw5.size
      have HW5 := hidden hw5
      clear hw5 d0 d1 d2 d3
      have hgc4 : (4 : Int) ≤ gc := by omega
      go_wp2_with fail
      refine (int32At_is X g 0 4 gc e0 e1 e2 e3 _ HX.out (by omega) (by decide) f0 f1 f2 f3 p0 p1 p2 p3 p4 p5 p6 p7).mono ?_
      rintro e w6 ⟨rfl, hw6⟩
      go_wp2
      go_ret
      exact ⟨by simp, (HW.out.trans (HW5.out.mono hz)).trans (hw6.mono (by omega))⟩

set_option maxRecDepth 100000 in
set_option maxHeartbeats 1600000 in
theorem back_pos (X : Int) (a : Option Addr) (len cap : Nat) (zs : List Int) (w : World) (hx0 : 0 ≤ X) (hx1 : X ≤ 2147483647) (hl20 : len ≤ 1048576) (HZL : Hid (zs.length = len))
    (HA : Hid (0 < len → ∃ b off, a = some ⟨b, off, none⟩ ∧ b < w.heap.size ∧ ∀ j, j < len → w.cell? ⟨b, off + j, none⟩ = some (.int .u8 (zs.getD j 0)))) :
    Calls Try.prog 5 #[.int .i32 X, .slice a len cap] w fun e w' => e = .returned (.bool true) ∧ Below w.heap.size w w' := by
  have h20 : decide (len ≤ 1048576) = true := by simp; omega
  obtain ⟨hX, p0, p1, p2, p3, p4, p5, p6, p7⟩ := four_bytes X (X) (by omega) (by omega) (Or.inl ⟨rfl, by omega⟩)
  have HX := hidden hX
  clear hX
  go_enter Try.func5, Try.ntmps5
  go_wp2_with (first
    | (go_at_call 10; refine (bytes10_any _ _ _ _ _ (by unfold maxLen; omega)).mono ?_; rintro e w' ⟨rfl, rfl⟩)
    | (at_make; refine buf_make _ rfl _ _ rfl w.heap.size _ (4 + len) rfl rfl (by omega) (by omega) (Nat.le_refl _) ?_; intro v1 w1 hb1 hw1)
    | (at_builtin; refine buf_append _ rfl _ _ rfl w.heap.size _ _ rfl (hb1.alloc _) ⟨w1.heap.size, 0, none⟩ 4 4 [(X) / 16777216, (X) / 65536 % 256, (X) / 256 % 256, (X) % 256] rfl rfl (cells_new w1 _ 5) (by decide) (by have := hw1.size; simp; omega) ?_; intro v2 w2 hb2 hw2))
  have hw3 : Below w.heap.size w w2 := (hw1.alloc hw1.size _).trans hw2
  clear hw1 hw2 hb1
  go_loopw [6, 7] (fun v i wr => ∃ k : Nat, k ≤ len ∧ i = .int .i64 k ∧ Buf w.heap.size wr v ([(X) / 16777216, (X) / 65536 % 256, (X) / 256 % 256, (X) % 256] ++ zs.take k) ∧ Below w.heap.size w wr) (fun _ i _ => len - (intOf i).toNat)
  case atStart => exact ⟨0, Nat.zero_le _, rfl, hb2, hw3⟩
  case round =>
    clear hb2 hw3
    obtain ⟨k, hk, rfl, hb, hw⟩ := hrel
    have hz := hw.size
    have hln : (zs.take k).length ≤ k := List.length_take_le _ _
    by_cases hlt : k < len
    · obtain ⟨b, off, rfl, hbl, hcs⟩ := HA.out (by omega)
      have hck : wr.cell? ⟨b, off + k, none⟩ = some (.int .u8 (zs.getD k 0)) := (hw.cell (by exact hbl)).trans (hcs k hlt)
      have HT : Hid (zs.take (k + 1) = zs.take k ++ [zs.getD k 0]) := by
        unfold Hid
        have hkz : k < zs.length := by rw [HZL.out]; exact hlt
        rw [List.take_succ_eq_append_getElem hkz]
        simp [List.getD, hkz]
      generalize zs.getD k 0 = y at *
      clear hcs
      go_wp2_with (at_builtin; refine buf_append _ rfl _ _ rfl w.heap.size _ _ rfl (hb.alloc _) ⟨wr.heap.size, 0, none⟩ 1 1 [y] rfl rfl (cells_new wr _ 5) (by simp only [List.length_append, List.length_cons, List.length_nil]; omega) (by simp; omega) ?_; intro v4 w4 hb4 hw4)
      go_roundw
      case rel =>
        refine ⟨k + 1, by omega, by go_num, ?_, (hw.alloc hz _).trans hw4⟩
        rw [HT.out, ← List.append_assoc]
        exact hb4
      case measure => simp [intOf]; omega
    · obtain ⟨g, gc, n, rfl, hgb, hgl, hgc, hg4, d0, d1, d2, d3⟩ := buf_four hb
      have HB := hidden hb
      have HW := hidden hw
      clear hb hw
      generalize (X) / 16777216 = e0 at *
      generalize (X) / 65536 % 256 = e1 at *
      generalize (X) / 256 % 256 = e2 at *
      generalize (X) % 256 = e3 at *
      go_wp2_with fail
      refine (int32At_is X g 0 n gc e0 e1 e2 e3 _ HX.out hgl hg4 d0 d1 d2 d3 p0 p1 p2 p3 p4 p5 p6 p7).mono ?_
      rintro e w5 ⟨rfl, hw5⟩
      have f0 := (hw5.cell (p := ⟨g, 0, none⟩) hgl).trans d0
      have f1 := (hw5.cell (p := ⟨g, 0 + 1, none⟩) hgl).trans d1
      have f2 := (hw5.cell (p := ⟨g, 0 + 2, none⟩) hgl).trans d2
      have f3 := (hw5.cell (p := ⟨g, 0 + 3, none⟩) hgl).trans d3
      have hz5 := hw5.size
      have HW5 := hidden hw5
      clear hw5 d0 d1 d2 d3
      have hgc4 : (4 : Int) ≤ gc := by omega
      go_wp2_with fail
      refine (int32At_is X g 0 4 gc e0 e1 e2 e3 _ HX.out (by omega) (by decide) f0 f1 f2 f3 p0 p1 p2 p3 p4 p5 p6 p7).mono ?_
      rintro e w6 ⟨rfl, hw6⟩
      go_wp2
      go_ret
      exact ⟨by simp, (HW.out.trans (HW5.out.mono hz)).trans (hw6.mono (by omega))⟩

set_option maxHeartbeats 400000 in
theorem back_long (X : Int) (a : Option Addr) (len cap : Nat) (w : World) (h : (1048576 : Int) < len) (hm : len ≤ maxLen) :
    Calls Try.prog 5 #[.int .i32 X, .slice a len cap] w fun e w' => e = .returned (.bool true) ∧ Below w.heap.size w w' := by
  have h20 : decide (len ≤ 1048576) = false := by simp; omega
  go_enter Try.func5, Try.ntmps5
  go_wp2_with (go_at_call 10; refine (bytes10_any _ _ _ _ _ hm).mono ?_; rintro e w' ⟨rfl, rfl⟩)
  go_ret
  exact ⟨rfl, Below.refl _ _⟩

end Go.Proofs.Qxb6612278a
