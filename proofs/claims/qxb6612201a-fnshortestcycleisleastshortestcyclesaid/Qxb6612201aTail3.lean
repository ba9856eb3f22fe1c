/-
  WALK: the law 3 behind its copies.
-/
import Derived.Test.Qxb6612201aHead3
import Derived.Test.Qxb6612201aZsc
import Derived.BigQuiet
namespace Go.Proofs.Qxb6612201a
open Go.RowKit Go.Shelf
set_option linter.unusedVariables false
set_option linter.unusedSimpArgs false

/-- What the loop holds: the cycle so far, a row of the call's own. -/
structure WantAt (E : Nat → Nat → Prop) (s n : Nat) (ds : List Int) (w2 : World) (l1 : List Nat) (gw cw u : Nat) (w : World) : Prop where
  own : w.ownsRow w2.heap.size 3 1 (.slice (some ⟨gw, 0, none⟩) (l1.length + 1) cw) (l1.length + 1) ((s :: l1).map fun x : Nat => Value.int .i64 (x : Int))
  below : Below w2.heap.size w2 w
  pre : PreCyc E (dAt ds) s l1 u
  pos : 0 ≤ dAt ds u
  bnd : l1.length + dAt ds u ≤ n

theorem want_cell {l1 : List Nat} {s B gw cw : Nat} {w : World} (h : w.ownsRow B 3 1 (.slice (some ⟨gw, 0, none⟩) (l1.length + 1) cw) (l1.length + 1) ((s :: l1).map fun x : Nat => Value.int .i64 (x : Int))) {k : Nat} (hk : k < l1.length + 1) : w.cell? ⟨gw, k, none⟩ = some (.int .i64 (((s :: l1).getD k 0 : Nat) : Int)) := by
  rw [h.cellAt k (by omega), List.getElem?_map, List.getD_eq_getElem?_getD, List.getElem?_eq_getElem (by simpa using hk)]
  rfl

set_option maxHeartbeats 25600000 in
set_option maxRecDepth 1000000 in
theorem tail3_any (h : Hist) (l0 c0 l1 c1 l2 c2 l3 c3 l4 c4 l5 c5 l6 c6 l7 c7 g0 g1 g2 g3 g5 : Nat) (a0 a1 a2 a3 a4 a5 a6 a7 : Option Addr) (items s : Int) (w00 w : World) (h00 : Hid (Below w00.heap.size w00 w))
    (r0 : Hid (Row w .i64 a0 g0 l0 h.ks)) (r1 : Hid (Row w .i64 a1 g1 l1 h.ts)) (r2 : Hid (Row w .i64 a2 g2 l2 h.los)) (r3 : Hid (Row w .i64 a3 g3 l3 h.his)) (r5 : Hid (Row w .i8 a5 g5 l5 h.ocs)) (d0 : (l0 : Int) ≤ 1024) (d4 : (l4 : Int) ≤ 1024) (i0 : 0 ≤ items) (i1 : items ≤ 65536)
    (u10 u11 u12 u13 u14 u15 u16 u17 u18 u19 u20 u21 u22 u23 u24 u25 u26 u27 u28 u29 u30 u31 u32 u33 u34 u35 u36 u37 u38 u39 u40 u41 u42 u43 u44 u45 u46 u47 u48 u49 u50 u51 u52 u53 u54 u55 u56 u57 u58 u59 u60 u61 u62 u63 u64 u65 u66 u67 u68 u69 u70 u71 u72 u73 u74 u75 u76 u77 u78 u79 u80 u81 u82 u83 u84 u85 u86 u87 u88 u89 u90 u91 u92 u93 u94 u95 u96 u97 u98 u99 u100 u101 u102 u103 u104 u105 u106 u107 u108 u109 u110 u111 u112 u113 u114 u115 u116 u117 u118 u119 u120 u121 u122 u123 u124 u125 u126 u127 u128 u129 u130 u131 u132 u133 u134 u135 u136 u137 u138 u139 u140 u141 u142 u143 u144 u145 u146 u147 u148 u149 u150 u151 u152 u153 u154 u155 u156 u157 u158 u159 u160 u161 u162 u163 u164 u165 u166 u167 u168 u169 u170 u171 u172 u173 u174 u175 u176 u177 u178 u179 u180 u181 u182 u183 u184 u185 u186 u187 u188 u189 u190 u191 u192 u193 u194 u195 u196 u197 u198 u199 u200 u201 u202 u203 u204 u205 u206 u207 u208 u209 u210 u211 u212 u213 u214 u215 u216 u217 u218 u219 u220 u221 u222 u223 u224 u225 u226 u227 u228 u229 u230 u231 u232 u233 u234 u235 u236 u237 u238 u239 u240 u241 u242 u243 u244 u245 u246 u247 u248 u249 u250 u251 u252 u253 u254 u255 u256 u257 u258 u259 u260 u261 u262 u263 u264 u265 u266 u267 u268 u269 u270 u271 u272 u273 u274 u275 u276 u277 u278 u279 : Value) :
    Code.wp Try.prog (dropS 14 (b3 Try.f3)) (bodyPost Try.prog Try.f3 fun e w' => e = .returned (.bool true) ∧ Below w00.heap.size w00 w') { tmps := #[.slice a0 l0 c0, .slice a1 l1 c1, .slice a2 l2 c2, .slice a3 l3 c3, .slice a4 l4 c4, .slice a5 l5 c5, .slice a6 l6 c6, .slice a7 l7 c7, .int .i64 items, .int .i64 s, u10, u11, u12, u13, u14, u15, u16, u17, u18, u19, u20, u21, u22, u23, u24, u25, u26, u27, u28, u29, u30, u31, u32, u33, u34, u35, u36, u37, u38, u39, u40, u41, u42, u43, u44, u45, u46, u47, u48, u49, u50, u51, u52, u53, u54, u55, u56, u57, u58, u59, u60, u61, u62, u63, u64, u65, u66, u67, u68, u69, u70, u71, u72, u73, u74, u75, u76, u77, u78, u79, u80, u81, u82, u83, u84, u85, u86, u87, u88, u89, u90, u91, u92, u93, u94, u95, u96, u97, u98, u99, u100, u101, u102, u103, u104, u105, u106, u107, u108, u109, u110, u111, u112, u113, u114, u115, u116, u117, u118, u119, u120, u121, u122, u123, u124, u125, u126, u127, u128, u129, u130, u131, u132, u133, u134, u135, u136, u137, u138, u139, u140, u141, u142, u143, u144, u145, u146, u147, u148, u149, u150, u151, u152, u153, u154, u155, u156, u157, u158, u159, u160, u161, u162, u163, u164, u165, u166, u167, u168, u169, u170, u171, u172, u173, u174, u175, u176, u177, u178, u179, u180, u181, u182, u183, u184, u185, u186, u187, u188, u189, u190, u191, u192, u193, u194, u195, u196, u197, u198, u199, u200, u201, u202, u203, u204, u205, u206, u207, u208, u209, u210, u211, u212, u213, u214, u215, u216, u217, u218, u219, u220, u221, u222, u223, u224, u225, u226, u227, u228, u229, u230, u231, u232, u233, u234, u235, u236, u237, u238, u239, u240, u241, u242, u243, u244, u245, u246, u247, u248, u249, u250, u251, u252, u253, u254, u255, u256, u257, u258, u259, u260, u261, u262, u263, u264, u265, u266, u267, u268, u269, u270, u271, u272, u273, u274, u275, u276, u277, u278, u279], defers := [] } w := by
  obtain ⟨i3, hi3, z30, z31, z32⟩ := info_parts Try.info3
  have hI3 := hidden (And.intro hi3 (And.intro z30 (And.intro z31 z32)))
  clear hi3 z30 z31 z32
  conv => arg 2; whnf
  go_wp2_with fail
  refine (well_any a0 a1 a2 a3 a5 g0 g1 g2 g3 l0 l1 l2 l3 l4 l5 c0 c1 c2 c3 c5 items s h.ks h.ts h.los h.his w (by omega) r0 r1 r2 r3 i0 (by omega)).mono ?_
  rintro e w' ⟨b, rfl, hb, rfl⟩
  cases b
  case false =>
    clear hb
    go_wp2_with fail
    go_returns
    exact ⟨rfl, h00.out⟩
  obtain ⟨⟨e1, e2, e3, e5⟩, hW⟩ := hb rfl
  replace e1 := e1.symm
  replace e2 := e2.symm
  replace e3 := e3.symm
  replace e5 := e5.symm
  subst e1 e2 e3 e5
  clear hb
  obtain ⟨sN, rfl⟩ : ∃ x : Nat, s = x := ⟨s.toNat, by have := hW.s0; omega⟩
  obtain ⟨it, rfl⟩ : ∃ x : Nat, items = x := ⟨items.toNat, by omega⟩
  have hs : (sN : Int) < l4 := hW.sn
  have HWF := hidden hW
  have hE := hidden (edge_lt hW.ok)
  clear hW
  go_wp2_with fail
  refine (graph_any h a0 a1 a2 a3 a5 g0 g1 g2 g3 g5 l0 l4 c0 c1 c2 c3 c5 (it : Int) (sN : Int) w (by omega) d4 r0 r1 r2 r3 r5 HWF).mono ?_
  rintro e w1 ⟨ga, bs, rfl, hob, hA, hb1⟩
  obtain ⟨NN, hNN⟩ : ∃ NN, NN = l4 * l4 := ⟨_, rfl⟩
  rw [← hNN] at hob ⊢
  have HNN := hidden hNN
  have HA := hidden hA
  have HB := hidden hob.reads
  have HB1 := hidden hb1
  clear hNN hA hob hb1
  go_wp2_with fail
  refine (distTo_any (h.Edge l0) ga NN l4 sN bs w1 d4 hs HNN HB HA hE).mono ?_
  rintro e w2 ⟨gd, ds, rfl, hod, hdl, hD, hneg, hle, hb2⟩
  have HRD : Hid (Reads w2 gd l4 ds) := hidden ⟨hdl, (hod.lt gd rfl).2, fun j hj => (hod.cellAt j (by omega)).trans (ints_get ds j (by omega))⟩
  have HDL := hidden hdl
  have HD := hidden hD
  have HLE := hidden hle
  have HB2 := hidden hb2
  have HBS := hidden (HB.out.below hb2 HB.out.2.1)
  clear hod hdl hD hneg hle hb2
  go_wp2_with fail
  refine (nearest_any (h.Edge l0) ga gd NN l4 sN bs ds w2 d4 hs HNN HBS HRD HA).mono ?_
  rintro e w' ⟨b, rfl, hnear, rfl⟩
  have HBX : Hid (Below w00.heap.size w00 w2) := hidden ((h00.out.trans (HB1.out.mono h00.out.size)).trans (HB2.out.mono (by have := h00.out.size; have := HB1.out.size; omega)))
  by_cases hbn : b < 0
  case pos =>
    clear hnear
    go_wp2_with fail
    go_returns
    exact ⟨rfl, HBX.out⟩
  have hb0 : 0 ≤ b := by omega
  clear hbn
  obtain ⟨⟨v0, n1, n2, n3, n4⟩, nmin⟩ := hnear.2 hb0
  have hmin : ∀ v, h.Edge l0 sN v → 0 ≤ dAt ds v → b ≤ dAt ds v := fun v hv hp => nmin v (hE.out _ _ hv).2 (fun e => by rw [e] at hv; exact h.edge_irrefl _ _ hv) hv hp
  have HMIN := hidden hmin
  have HV0 := hidden (And.intro n1 (And.intro n3 n4))
  clear hnear nmin hmin n1 n2 n3 n4
  go_wp2_with fail
  obtain ⟨W3, hW3⟩ : ∃ W3, w2.alloc (.cells #[.int .i64 (sN : Int)] 3) = W3 := ⟨_, rfl⟩
  have bb3 : Below w2.heap.size w2 W3 := by rw [← hW3]; exact (Below.refl _ _).alloc (Nat.le_refl _) _
  have O3 : Hid (W3.ownsRow w2.heap.size 3 1 (.slice (some ⟨w2.heap.size, 0, none⟩) 1 1) 1 [.int .i64 (sN : Int)]) := hidden (by rw [← hW3]; exact own_of_heap (xs := [(sN : Int)]) (heap_alloc_new w2 _) rfl (Nat.le_refl _) (by decide))
  rw [hW3]
  clear hW3
  have B3 := hidden bb3
  clear bb3
  refine (lowestS_any (h.Edge l0) ga gd NN l4 sN bs ds b W3 d4 hs HNN (hidden (HBS.out.below B3.out HBS.out.2.1)) (hidden (HRD.out.below B3.out HRD.out.2.1)) HA).mono ?_
  rintro e w' ⟨hlow, rfl⟩
  rcases hlow with ⟨u, rfl, hun, hlow⟩ | ⟨rfl, hno⟩
  case inr => exact absurd ⟨HV0.out.2.1, HV0.out.2.2⟩ (hno v0 HV0.out.1)
  have W0 : Hid (WantAt (h.Edge l0) sN l4 ds w2 [] w2.heap.size 1 u W3) := hidden ⟨O3.out, B3.out, PreCyc.start hb0 hlow HMIN.out, by rw [hlow.2.1]; exact hb0, by have := HLE.out u; simp; omega⟩
  have hun' : (u : Int) < l4 := by omega
  clear hlow O3 B3
  go_wp2_with fail
  go_loopw [33, 34] (fun x33 x34 wx => ∃ (lw : List Nat) (u gw cw : Nat), x33 = .slice (some ⟨gw, 0, none⟩) (lw.length + 1) cw ∧ x34 = .int .i64 u ∧ (u : Int) < l4 ∧ Hid (WantAt (h.Edge l0) sN l4 ds w2 lw gw cw u wx)) (fun _ x34 _ => (dAt ds (intOf x34).toNat).toNat)
  case atStart => exact ⟨[], u, _, _, rfl, rfl, hun', W0⟩
  case round =>
    clear W0 hun' hun
    obtain ⟨lw, u, gw, cw, rfl, rfl, hun, hWt⟩ := hrel
    have rdx := HRD.out.below hWt.out.below HRD.out.2.1
    have cu := rdx.2.2 u (by omega)
    rw [iAt_dAt ds u (by have := HDL.out; omega)] at cu
    obtain ⟨du, hdu⟩ : ∃ du, dAt ds u = du := ⟨_, rfl⟩
    rw [hdu] at cu
    have HDU := hidden hdu
    have hu0 : (0 : Int) ≤ u := by omega
    have hp0 : 0 ≤ du := by have := hWt.out.pos; omega
    have hbd : (lw.length : Int) + du ≤ 1024 := by have := hWt.out.bnd; omega
    clear hdu rdx
    by_cases hpos : 0 < du
    · have N1 := cell_one_new wr (.int .i64 (u : Int)) 3
      have OW := hidden hWt.out.own
      have hszw := hWt.out.below.size
      obtain ⟨hi3, z30, z31, z32⟩ := hI3.out
      go_wp2_with (
          at_builtin
          refine wpList_append_own_at _ rfl _ _ 22 rfl w2.heap.size 3 i3 (.int .i64 0) 1 8 Try.underlying22 hi3 z30 z31 z32 rfl (by decide) _ _ _ rfl (OW.out.alloc _) ⟨wr.heap.size, 0, none⟩ 1 1 [.int .i64 (u : Int)] rfl rfl N1 (by simp [Value.oneCell']) (by unfold maxLen; omega) (by omega) (by simp; omega) ?_
          intro v' w3 hown' hgrow hnil hloc
          have hgr := (World.grownBy_alloc wr (.cells #[.int .i64 (u : Int)] 3) (some gw)).trans hgrow
          obtain ⟨g', cap', rfl⟩ := own_form hown'
          have H3 := hidden (And.intro hown' hgr)
          have b93 : Below w2.heap.size w2 w3 := hWt.out.below.grown hgr hWt.out.below.size (fun q hq => by cases hq; exact (hWt.out.own.lt gw rfl).1)
          have c93 := ((HRD.out.below b93 HRD.out.2.1).2.2 u (by omega)).trans (congrArg (fun x => some (Value.int .i64 x)) ((iAt_dAt ds u (by have := HDL.out; omega)).trans HDU.out))
          have B93 := hidden b93
          clear hown' hgrow hnil hloc hgr b93)
      refine (lowestS_any (h.Edge l0) ga gd NN l4 u bs ds (du - 1) w3 d4 hun HNN (hidden (HBS.out.below B93.out HBS.out.2.1)) (hidden (HRD.out.below B93.out HRD.out.2.1)) HA).mono ?_
      rintro e w' ⟨hlow, rfl⟩
      rcases hlow with ⟨x, rfl, hxn, hlow⟩ | ⟨rfl, hno⟩
      case inr =>
        obtain ⟨x, hx1, hx2⟩ := step_down HD.out (u := u) (by rw [HDU.out]; exact hpos)
        exact absurd ⟨hx1, by rw [hx2, HDU.out]⟩ (hno x (hE.out _ _ hx1).2)
      have NEXT : Hid (WantAt (h.Edge l0) sN l4 ds w2 (lw ++ [u]) g' cap' x w3) := hidden ⟨by
        have h1 := H3.out.1
        rw [List.length_append]
        rw [show sN :: (lw ++ [u]) = (sN :: lw) ++ [u] from rfl, List.map_append]
        exact h1, B93.out, hWt.out.pre.step (by rw [HDU.out]; exact hpos) (by rw [HDU.out]; exact hlow), by rw [hlow.2.1]; omega, by rw [hlow.2.1, List.length_append]; have := hWt.out.bnd; have := HDU.out; simp; omega⟩
      have MEAS : Hid ((dAt ds x).toNat < (dAt ds u).toNat) := hidden (by rw [hlow.2.1, HDU.out]; omega)
      have hxn' : (x : Int) < l4 := by omega
      clear hlow cu N1 c93 hi3 z30 z31 z32
      go_wp2_with fail
      exact ⟨⟨lw ++ [u], x, g', cap', by simp, rfl, hxn', NEXT⟩, by simp only [intOf, Int.toNat_natCast]; exact MEAS.out⟩
    · have hd0 : du = 0 := by omega
      subst hd0
      have CYC := hidden (hWt.out.pre.final HDU.out)
      go_wp2_with fail
      have BW : Below w.heap.size w wr := (HB1.out.trans (HB2.out.mono HB1.out.size)).trans (hWt.out.below.mono (Nat.le_trans HB1.out.size HB2.out.size))
      refine (zzsc_any h l4 it sN l0 g0 g1 g2 g3 g5 a0 a1 a2 a3 a5 a4 c0 c1 c2 c3 c5 c4 a6 a7 l6 c6 l7 c7 wr d4 d0 hs i1 (hidden (r0.out.below BW (Nat.le_refl _))) (hidden (r1.out.below BW (Nat.le_refl _))) (hidden (r2.out.below BW (Nat.le_refl _))) (hidden (r3.out.below BW (Nat.le_refl _))) (hidden (r5.out.below BW (Nat.le_refl _))) (hidden HWF.out.ok) (hidden fun d hd => ⟨v0, HV0.out.2.1, by
        have h1 := HD.out.same hd (v := v0) (by rw [HV0.out.2.2]; exact hb0)
        rw [h1, HV0.out.2.2]
        exact hb0⟩)).mono ?_
      rintro e w5 ⟨ds', hD', v9, L9, rfl, ho9, hc9, hb9⟩
      have hL : L9 = sN :: lw := (hc9.congr hD' HD.out).unique CYC.out
      subst hL
      rw [List.length_cons] at ho9
      obtain ⟨g9, c9, rfl⟩ := own_form ho9
      have OW5 := hidden (own_turned hWt.out.own (Turned.of_below hb9 (Nat.le_refl _)) (by simp))
      have O9 := hidden ho9
      have hll : (lw.length : Int) ≤ 1024 := by omega
      have FIN : Hid (Below w00.heap.size w00 w5) := hidden ((HBX.out.trans (hWt.out.below.mono HBX.out.size)).trans (hb9.mono (Nat.le_trans HBX.out.size hWt.out.below.size)))
      clear ho9 hb9 hc9 hD' BW cu
      go_wp2_with fail
      go_loopw [36] (fun x36 wx => ∃ k : Nat, x36 = .int .i64 k ∧ k ≤ lw.length + 1 ∧ Hid (Below w5.heap.size w5 wx)) (fun x36 _ => lw.length + 1 - (intOf x36).toNat)
      case atStart => exact ⟨0, rfl, Nat.zero_le _, hidden (Below.refl _ _)⟩
      case round =>
        obtain ⟨k, rfl, hk, hX⟩ := hrel
        by_cases hlt : (k : Int) < (lw.length : Int) + 1
        · have e1 := (hX.out.cell (p := ⟨g9, k, none⟩) (O9.out.lt g9 rfl).2).trans (want_cell O9.out (k := k) (by omega))
          have e2 := (hX.out.cell (p := ⟨gw, k, none⟩) (OW5.out.lt gw rfl).2).trans (want_cell OW5.out (k := k) (by omega))
          obtain ⟨y, hy⟩ : ∃ y : Nat, (sN :: lw).getD k 0 = y := ⟨_, rfl⟩
          rw [hy] at e1 e2
          clear hy
          have hk0 : (0 : Int) ≤ k := by omega
          go_wp2_with fail
          go_quiet (fail)
          go_wp2_with fail
          exact ⟨⟨k + 1, by go_num, by omega, hidden (below_drewN hX.out _)⟩, by simp [intOf]; omega⟩
        · go_wp2_with fail
          go_returns
          exact ⟨rfl, FIN.out.trans (hX.out.mono FIN.out.size)⟩

end Go.Proofs.Qxb6612201a
