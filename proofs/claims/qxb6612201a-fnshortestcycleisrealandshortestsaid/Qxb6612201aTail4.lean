/-
  WALK: the law 4 behind its copies.
-/
import Derived.Test.Qxb6612201aHead4
import Derived.Test.Qxb6612201aZsc
namespace Go.Proofs.Qxb6612201a
open Go.RowKit Go.Shelf
set_option linter.unusedVariables false
set_option linter.unusedSimpArgs false

/-- The least of 1 + the distance from s among the predecessors of s below k. -/
def FromAt (E : Nat → Nat → Prop) (n s k : Nat) (ds : List Int) (b : Int) : Prop :=
  (b < 0 → ∀ v, v < k → v ≠ s → E v s → dAt ds v < 0) ∧ (0 ≤ b → (∃ v, v < n ∧ v ≠ s ∧ E v s ∧ 0 ≤ dAt ds v ∧ dAt ds v + 1 = b) ∧ ∀ v, v < k → v ≠ s → E v s → 0 ≤ dAt ds v → b ≤ dAt ds v + 1)

/-- The transactions of L ahead of k are marked. -/
def SeenAt (n : Nat) (L : List Nat) (k : Nat) (bs : List Bool) : Prop := bs.length = n ∧ ∀ x, x < n → (bAt bs x = true ↔ ∃ j, j < k ∧ L[j]? = some x)

theorem SeenAt.start (n : Nat) (L : List Nat) : SeenAt n L 0 (List.replicate n false) := ⟨by simp, fun x _ => by
  rw [bAt_replicate]
  constructor
  · intro h; cases h
  · rintro ⟨j, hj, _⟩; omega⟩

theorem SeenAt.next {n k x : Nat} {L : List Nat} {bs : List Bool} (h : SeenAt n L k bs) (hx : L[k]? = some x) (hxn : x < n) : SeenAt n L (k + 1) (bs.set x true) := by
  refine ⟨by rw [List.length_set]; exact h.1, fun y hy => ?_⟩
  rw [bAt_set _ _ _ _ (by have := h.1; omega)]
  by_cases e : y = x
  · subst e
    rw [if_pos rfl]
    exact ⟨fun _ => ⟨k, Nat.lt_succ_self _, hx⟩, fun _ => rfl⟩
  · rw [if_neg e, h.2 y hy]
    constructor
    · rintro ⟨j, hj, hl⟩; exact ⟨j, by omega, hl⟩
    · rintro ⟨j, hj, hl⟩
      by_cases ej : j = k
      · subst ej
        rw [hx] at hl
        cases hl
        exact absurd rfl e
      · exact ⟨j, by omega, hl⟩

theorem got_cell {lw : List Nat} {s B g9 c9 : Nat} {w : World} (h : w.ownsRow B 3 1 (.slice (some ⟨g9, 0, none⟩) (lw.length + 1) c9) (lw.length + 1) ((s :: lw).map fun x : Nat => Value.int .i64 (x : Int))) {k x : Nat} (hk : (s :: lw)[k]? = some x) : w.cell? ⟨g9, k, none⟩ = some (.int .i64 (x : Int)) := by
  have hl := (List.getElem?_eq_some_iff.1 hk).1
  rw [List.length_cons] at hl
  rw [h.cellAt k (by omega), List.getElem?_map, hk]
  rfl

theorem wrap_ok {a : Int} (h0 : 0 ≤ a) (h1 : a ≤ 4000000) : IntKind.i64.wrap a = a := by
  simp [IntKind.wrap, IntKind.bits, IntKind.signed]
  omega

set_option maxHeartbeats 25600000 in
set_option maxRecDepth 1000000 in
theorem tail4_any (h : Hist) (l0 c0 l1 c1 l2 c2 l3 c3 l4 c4 l5 c5 l6 c6 l7 c7 g0 g1 g2 g3 g5 : Nat) (a0 a1 a2 a3 a4 a5 a6 a7 : Option Addr) (items s : Int) (w00 w : World) (h00 : Hid (Below w00.heap.size w00 w))
    (r0 : Hid (Row w .i64 a0 g0 l0 h.ks)) (r1 : Hid (Row w .i64 a1 g1 l1 h.ts)) (r2 : Hid (Row w .i64 a2 g2 l2 h.los)) (r3 : Hid (Row w .i64 a3 g3 l3 h.his)) (r5 : Hid (Row w .i8 a5 g5 l5 h.ocs)) (d0 : (l0 : Int) ≤ 1024) (d4 : (l4 : Int) ≤ 1024) (i0 : 0 ≤ items) (i1 : items ≤ 65536)
    (u10 u11 u12 u13 u14 u15 u16 u17 u18 u19 u20 u21 u22 u23 u24 u25 u26 u27 u28 u29 u30 u31 u32 u33 u34 u35 u36 u37 u38 u39 u40 u41 u42 u43 u44 u45 u46 u47 u48 u49 u50 u51 u52 u53 u54 u55 u56 u57 u58 u59 u60 u61 u62 u63 u64 u65 u66 u67 u68 u69 u70 u71 u72 u73 u74 u75 u76 u77 u78 u79 u80 u81 u82 u83 u84 u85 u86 u87 u88 u89 u90 u91 u92 u93 u94 u95 u96 u97 u98 u99 u100 u101 u102 u103 u104 u105 u106 u107 u108 u109 u110 u111 u112 u113 u114 u115 u116 u117 u118 u119 u120 u121 u122 u123 u124 u125 u126 u127 u128 u129 u130 u131 u132 u133 u134 u135 u136 u137 u138 u139 u140 u141 u142 u143 u144 u145 u146 u147 u148 u149 u150 u151 u152 u153 u154 u155 u156 u157 u158 u159 u160 u161 u162 u163 u164 u165 u166 u167 u168 u169 u170 u171 u172 u173 u174 u175 u176 u177 u178 u179 u180 u181 u182 u183 u184 u185 u186 u187 u188 u189 u190 u191 u192 u193 u194 u195 u196 u197 u198 u199 u200 u201 u202 u203 u204 u205 u206 u207 u208 u209 u210 u211 u212 u213 u214 u215 u216 u217 u218 u219 u220 u221 u222 u223 u224 u225 u226 u227 u228 u229 u230 u231 u232 u233 u234 u235 u236 u237 u238 u239 u240 u241 u242 u243 u244 u245 u246 u247 u248 u249 u250 u251 u252 u253 u254 u255 u256 u257 u258 u259 u260 u261 u262 u263 u264 u265 u266 u267 u268 u269 u270 u271 u272 u273 u274 u275 u276 u277 u278 u279 u280 u281 u282 u283 u284 u285 u286 u287 u288 u289 u290 u291 u292 u293 u294 u295 u296 u297 u298 u299 u300 u301 u302 u303 u304 u305 u306 u307 u308 u309 u310 u311 u312 u313 u314 u315 u316 u317 u318 u319 u320 u321 u322 u323 u324 u325 u326 u327 u328 u329 u330 u331 u332 u333 u334 : Value) :
    Code.wp Try.prog (dropS 14 (b4 Try.f4)) (bodyPost Try.prog Try.f4 fun e w' => e = .returned (.bool true) ∧ Below w00.heap.size w00 w') { tmps := #[.slice a0 l0 c0, .slice a1 l1 c1, .slice a2 l2 c2, .slice a3 l3 c3, .slice a4 l4 c4, .slice a5 l5 c5, .slice a6 l6 c6, .slice a7 l7 c7, .int .i64 items, .int .i64 s, u10, u11, u12, u13, u14, u15, u16, u17, u18, u19, u20, u21, u22, u23, u24, u25, u26, u27, u28, u29, u30, u31, u32, u33, u34, u35, u36, u37, u38, u39, u40, u41, u42, u43, u44, u45, u46, u47, u48, u49, u50, u51, u52, u53, u54, u55, u56, u57, u58, u59, u60, u61, u62, u63, u64, u65, u66, u67, u68, u69, u70, u71, u72, u73, u74, u75, u76, u77, u78, u79, u80, u81, u82, u83, u84, u85, u86, u87, u88, u89, u90, u91, u92, u93, u94, u95, u96, u97, u98, u99, u100, u101, u102, u103, u104, u105, u106, u107, u108, u109, u110, u111, u112, u113, u114, u115, u116, u117, u118, u119, u120, u121, u122, u123, u124, u125, u126, u127, u128, u129, u130, u131, u132, u133, u134, u135, u136, u137, u138, u139, u140, u141, u142, u143, u144, u145, u146, u147, u148, u149, u150, u151, u152, u153, u154, u155, u156, u157, u158, u159, u160, u161, u162, u163, u164, u165, u166, u167, u168, u169, u170, u171, u172, u173, u174, u175, u176, u177, u178, u179, u180, u181, u182, u183, u184, u185, u186, u187, u188, u189, u190, u191, u192, u193, u194, u195, u196, u197, u198, u199, u200, u201, u202, u203, u204, u205, u206, u207, u208, u209, u210, u211, u212, u213, u214, u215, u216, u217, u218, u219, u220, u221, u222, u223, u224, u225, u226, u227, u228, u229, u230, u231, u232, u233, u234, u235, u236, u237, u238, u239, u240, u241, u242, u243, u244, u245, u246, u247, u248, u249, u250, u251, u252, u253, u254, u255, u256, u257, u258, u259, u260, u261, u262, u263, u264, u265, u266, u267, u268, u269, u270, u271, u272, u273, u274, u275, u276, u277, u278, u279, u280, u281, u282, u283, u284, u285, u286, u287, u288, u289, u290, u291, u292, u293, u294, u295, u296, u297, u298, u299, u300, u301, u302, u303, u304, u305, u306, u307, u308, u309, u310, u311, u312, u313, u314, u315, u316, u317, u318, u319, u320, u321, u322, u323, u324, u325, u326, u327, u328, u329, u330, u331, u332, u333, u334], defers := [] } w := by
  obtain ⟨i4, hi4, z40, z41, z42⟩ := info_parts Try.info4
  have hI4 := hidden (And.intro hi4 (And.intro z40 (And.intro z41 z42)))
  clear hi4 z40 z41 z42
  conv => arg 2; whnf
  go_wp2_with fail
  refine (well_any a0 a1 a2 a3 a5 g0 g1 g2 g3 l0 l1 l2 l3 l4 l5 c0 c1 c2 c3 c5 items s h.ks h.ts h.los h.his w (by omega) r0 r1 r2 r3 i0 (by omega)).mono ?_
  rintro e w' ⟨b, rfl, hb, rfl⟩
  cases b
  case false =>
    clear hb
    go_wp2_with fail
    go_returns
    exact ⟨rfl, h00.out⟩
  obtain ⟨⟨e1, e2, e3, e5⟩, hW⟩ := hb rfl
  replace e1 := e1.symm
  replace e2 := e2.symm
  replace e3 := e3.symm
  replace e5 := e5.symm
  subst e1 e2 e3 e5
  clear hb
  obtain ⟨sN, rfl⟩ : ∃ x : Nat, s = x := ⟨s.toNat, by have := hW.s0; omega⟩
  obtain ⟨it, rfl⟩ : ∃ x : Nat, items = x := ⟨items.toNat, by omega⟩
  have hs : (sN : Int) < l4 := hW.sn
  have HWF := hidden hW
  have hE := hidden (edge_lt hW.ok)
  clear hW
  go_wp2_with fail
  refine (graph_any h a0 a1 a2 a3 a5 g0 g1 g2 g3 g5 l0 l4 c0 c1 c2 c3 c5 (it : Int) (sN : Int) w (by omega) d4 r0 r1 r2 r3 r5 HWF).mono ?_
  rintro e w1 ⟨ga, bs, rfl, hob, hA, hb1⟩
  obtain ⟨NN, hNN⟩ : ∃ NN, NN = l4 * l4 := ⟨_, rfl⟩
  rw [← hNN] at hob ⊢
  have HNN := hidden hNN
  have HA := hidden hA
  have HB := hidden hob.reads
  have HB1 := hidden hb1
  have hN1 : (NN : Int) ≤ 1048576 := by
    have : l4 * l4 ≤ 1024 * 1024 := Nat.mul_le_mul (by omega) (by omega)
    omega
  clear hNN hA hob hb1
  go_wp2_with fail
  refine (distFrom_any (h.Edge l0) ga NN l4 sN bs w1 d4 hs HNN HB HA hE).mono ?_
  rintro e w2 ⟨gd, ds, rfl, hod, hdl, hD, hneg, hle, hb2⟩
  have HRD : Hid (Reads w2 gd l4 ds) := hidden ⟨hdl, (hod.lt gd rfl).2, fun j hj => (hod.cellAt j (by omega)).trans (ints_get ds j (by omega))⟩
  have HDL := hidden hdl
  have HD := hidden hD
  have HLE := hidden hle
  have HB2 := hidden hb2
  have HBS := hidden (HB.out.below hb2 HB.out.2.1)
  have hs0 : (0 : Int) ≤ sN := by omega
  clear hod hdl hD hneg hle hb2
  have HBX : Hid (Below w00.heap.size w00 w2) := hidden ((h00.out.trans (HB1.out.mono h00.out.size)).trans (HB2.out.mono (by have := h00.out.size; have := HB1.out.size; omega)))
  go_wp2_with fail
  go_loopw [32, 33] (fun vb vv wr => ∃ (v : Nat) (b : Int), vb = .int .i64 b ∧ vv = .int .i64 v ∧ v ≤ l4 ∧ -1 ≤ b ∧ b ≤ 1025 ∧ Hid (FromAt (h.Edge l0) l4 sN v ds b) ∧ w2 = wr) (fun _ vv _ => l4 - (intOf vv).toNat)
  case atStart => exact ⟨0, -1, rfl, rfl, Nat.zero_le _, by omega, by omega, hidden ⟨fun _ v hv => by omega, fun h => by omega⟩, rfl⟩
  case round =>
    obtain ⟨v, b, rfl, rfl, hvn, hb1, hb2, hI, rfl⟩ := hrel
    by_cases hlt : (v : Int) < l4
    case pos =>
      obtain ⟨y, hy⟩ : ∃ y : Nat, y = v * l4 := ⟨_, rfl⟩
      have hy1 : y + l4 ≤ NN := by
        have h1 : (v + 1) * l4 ≤ l4 * l4 := Nat.mul_le_mul_right l4 (by omega)
        rw [Nat.add_mul, Nat.one_mul] at h1
        have := HNN.out
        omega
      have hy2 : (v : Int) * (l4 : Int) = y := by rw [hy]; simp
      have wy : IntKind.i64.wrap ((v : Int) * (l4 : Int)) = (y : Int) := by rw [hy2]; exact wrap_ok (by omega) (by omega)
      obtain ⟨x, hx⟩ : ∃ x : Nat, x = y + sN := ⟨_, rfl⟩
      have hxn : x < NN := by omega
      have x1 : (y : Int) + (sN : Int) = x := by omega
      have x2 : IntKind.i64.wrap ((y : Int) + (sN : Int)) = (x : Int) := by rw [x1]; exact wrap_ok (by omega) (by omega)
      have x3 : (x : Int) < NN := by omega
      have x4 : (0 : Int) ≤ (x : Int) := by omega
      have bv0 : (0 : Int) ≤ (v : Int) := by omega
      have ca := HBS.out.2.2 x hxn
      have hRx : bAt bs x = true ↔ h.Edge l0 v sN := by
        rw [hx, hy]
        exact HA.out.2 _ _ (by omega) (by omega)
      have cd := HRD.out.2.2 v (by omega)
      rw [iAt_dAt ds v (by have := HRD.out.1; omega)] at cd
      obtain ⟨t, ht⟩ : ∃ b, b = bAt bs x := ⟨_, rfl⟩
      obtain ⟨dv, hdv⟩ : ∃ b, b = dAt ds v := ⟨_, rfl⟩
      rw [← ht] at ca hRx
      rw [← hdv] at cd
      have hdv1 : dv ≤ 1024 := by have := HLE.out v; omega
      have HR := hidden hRx
      have HDV := hidden hdv
      clear hRx ht hdv hx hxn x1 hy hy1 hy2
      have hnot : Hid ((v ≠ sN → h.Edge l0 v sN → dv < 0) → FromAt (h.Edge l0) l4 sN (v + 1) ds b) := hidden fun hh => by
        refine ⟨fun hb z hz hzs hE => ?_, fun hb => ⟨(hI.out.2 hb).1, fun z hz hzs hE h0 => ?_⟩⟩
        · by_cases e : z = v
          · subst e; rw [← HDV.out]; exact hh hzs hE
          · exact hI.out.1 hb z (by omega) hzs hE
        · by_cases e : z = v
          · subst e; have := hh hzs hE; rw [HDV.out] at this; omega
          · exact (hI.out.2 hb).2 z (by omega) hzs hE h0
      by_cases hvs : v = sN
      · have t0 : ((v : Int) != (sN : Int)) = false := by rw [bne_eq_false_iff_eq]; omega
        have HVS := hidden hvs
        clear hvs
        go_wp2_with fail
        exact ⟨⟨v + 1, b, rfl, by go_num, by omega, hb1, hb2, hidden (hnot.out fun h => absurd HVS.out h), trivial⟩, by simp [intOf]; omega⟩
      have t0 : ((v : Int) != (sN : Int)) = true := by rw [bne_iff_ne]; omega
      have HVS := hidden hvs
      clear hvs
      cases t with
      | false =>
        go_wp2_with fail
        exact ⟨⟨v + 1, b, rfl, by go_num, by omega, hb1, hb2, hidden (hnot.out fun _ h => by have := HR.out.2 h; cases this), trivial⟩, by simp [intOf]; omega⟩
      | true =>
        by_cases h0 : 0 ≤ dv
        case neg =>
          go_wp2_with fail
          exact ⟨⟨v + 1, b, rfl, by go_num, by omega, hb1, hb2, hidden (hnot.out fun _ _ => by omega), trivial⟩, by simp [intOf]; omega⟩
        have wd : IntKind.i64.wrap (dv + 1) = dv + 1 := wrap_ok (by omega) (by omega)
        by_cases h1 : b < 0 ∨ dv + 1 < b
        · have hnew : Hid (FromAt (h.Edge l0) l4 sN (v + 1) ds (dv + 1)) := hidden ⟨fun h => by omega, fun _ => ⟨⟨v, by omega, HVS.out, HR.out.1 rfl, by rw [← HDV.out]; exact h0, by rw [← HDV.out]⟩, fun z hz hzs hE hz0 => by
            by_cases e : z = v
            · subst e; rw [← HDV.out]; exact Int.le_refl _
            · rcases Int.lt_or_le b 0 with hb | hb
              · have := hI.out.1 hb z (by omega) hzs hE; omega
              · have := (hI.out.2 hb).2 z (by omega) hzs hE hz0; omega⟩⟩
          rcases h1 with h1 | h1
          · go_wp2_with fail
            exact ⟨⟨v + 1, dv + 1, rfl, by go_num, by omega, by omega, by omega, hnew, trivial⟩, by simp [intOf]; omega⟩
          · by_cases h2 : b < 0
            · go_wp2_with fail
              exact ⟨⟨v + 1, dv + 1, rfl, by go_num, by omega, by omega, by omega, hnew, trivial⟩, by simp [intOf]; omega⟩
            · go_wp2_with fail
              exact ⟨⟨v + 1, dv + 1, rfl, by go_num, by omega, by omega, by omega, hnew, trivial⟩, by simp [intOf]; omega⟩
        · have h2 : 0 ≤ b := by omega
          have h3 : b ≤ dv + 1 := by omega
          have hnew : Hid (FromAt (h.Edge l0) l4 sN (v + 1) ds b) := hidden ⟨fun h => by omega, fun _ => ⟨(hI.out.2 h2).1, fun z hz hzs hE hz0 => by
            by_cases e : z = v
            · subst e; rw [← HDV.out]; exact h3
            · exact (hI.out.2 h2).2 z (by omega) hzs hE hz0⟩⟩
          clear h1
          go_wp2_with fail
          exact ⟨⟨v + 1, b, rfl, by go_num, by omega, hb1, hb2, hnew, trivial⟩, by simp [intOf]; omega⟩
    have hvl : l4 = v := by omega
    subst hvl
    by_cases hbn : b < 0
    case pos =>
      go_wp2_with fail
      go_returns
      exact ⟨rfl, HBX.out⟩
    obtain ⟨⟨v0, n1, n2, n3, n4, n5⟩, nmin⟩ := hI.out.2 (by omega)
    have HV0 := hidden (And.intro n1 (And.intro n3 (And.intro n4 n5)))
    have HMIN := hidden nmin
    clear n1 n2 n3 n4 n5 nmin
    go_wp2_with fail
    have BW : Below w.heap.size w w2 := HB1.out.trans (HB2.out.mono HB1.out.size)
    refine (zzsc_any h l4 it sN l0 g0 g1 g2 g3 g5 a0 a1 a2 a3 a5 a4 c0 c1 c2 c3 c5 c4 a6 a7 l6 c6 l7 c7 w2 d4 d0 hs i1 (hidden (r0.out.below BW (Nat.le_refl _))) (hidden (r1.out.below BW (Nat.le_refl _))) (hidden (r2.out.below BW (Nat.le_refl _))) (hidden (r3.out.below BW (Nat.le_refl _))) (hidden (r5.out.below BW (Nat.le_refl _))) (hidden HWF.out.ok) (hidden fun d hd => on_cycle (h.edge_irrefl l0) hd HD.out HV0.out.2.1 HV0.out.2.2.1)).mono ?_
    rintro e w5 ⟨ds', hD', v9, L9, rfl, ho9, hc9, hb9⟩
    have hreal := hc9.real (h.edge_irrefl l0) hD'
    have hshort := hc9.shortest (h.edge_irrefl l0) hD' HD.out
    have hlen : (L9.length : Int) = b := by
      obtain ⟨v1, q1, q2, q3⟩ := hshort.2
      have r1 := hshort.1 v0 HV0.out.2.1 HV0.out.2.2.1
      have r2 := HMIN.out v1 (hE.out v1 sN q1).1 (fun e => by rw [e] at q1; exact h.edge_irrefl _ _ q1) q1 q2
      have := HV0.out.2.2.2
      omega
    obtain ⟨lw, rfl⟩ : ∃ lw, L9 = sN :: lw := by
      obtain ⟨u, l, m, e, _⟩ := hc9
      exact ⟨l, e⟩
    rw [List.length_cons] at ho9 hlen
    obtain ⟨g9, c9, rfl⟩ := own_form ho9
    obtain rfl : b = (lw.length : Int) + 1 := by omega
    have e0 := got_cell ho9 (k := 0) hreal.1
    have O9 := hidden ho9
    have HREAL := hidden hreal
    have HB9 := hidden hb9
    have HB5 := hidden (HBS.out.below hb9 HBS.out.2.1)
    have FIN : Hid (Below w00.heap.size w00 w5) := hidden (HBX.out.trans (hb9.mono HBX.out.size))
    obtain ⟨hi4, z40, z41, z42⟩ := hI4.out
    clear hreal hshort hc9 hD' ho9 hb9 BW hlen hI hbn hlt
    have hll : (lw.length : Int) ≤ 1024 := by omega
    go_wp2_with (at_make; refine wpList_make_full _ rfl _ _ 27 rfl w5.heap.size 4 i4 (.bool false) 1 Try.underlying27 hi4 z40 z41 .i64 .i64 _ _ l4 rfl rfl rfl rfl (by rw [z42]; omega) (by unfold maxLen; omega) (Nat.le_refl _) ?_; intro w6 hown6 hgrow6)
    have O6 : Hid (OwnsBs w6 w5.heap.size w5.heap.size l4 (List.replicate l4 false)) := hidden (by
      rw [show (madeCells (Value.bool false).cells (l4 * 1)).toList = (List.replicate l4 false).map Value.bool by rw [show (Value.bool false).cells = #[.bool false] from rfl, Nat.mul_one, toList_madeCells_one]; simp] at hown6
      exact hown6)
    have B6 : Hid (Below w5.heap.size w5 w6) := hidden ((Below.refl w5.heap.size w5).grown hgrow6 (Nat.le_refl _) (fun k hk => by cases hk))
    clear hown6 hgrow6 hi4 z40 z41 z42 e0
    go_wp2_with fail
    go_loopw [36] (fun x36 wx => ∃ (k : Nat) (sb : List Bool), x36 = .int .i64 k ∧ k ≤ lw.length + 1 ∧ Hid (SeenAt l4 (sN :: lw) k sb) ∧ Hid (OwnsBs wx w5.heap.size w5.heap.size l4 sb) ∧ Hid (Below w5.heap.size w5 wx)) (fun x36 _ => lw.length + 1 - (intOf x36).toNat)
    case atStart => exact ⟨0, _, rfl, Nat.zero_le _, hidden (SeenAt.start _ _), O6, B6⟩
    case round =>
      clear O6 B6
      obtain ⟨k, sb, rfl, hk, hSn, hO, hX⟩ := hrel
      by_cases hlt : (k : Int) < (lw.length : Int) + 1
      · obtain ⟨x, hx⟩ : ∃ x, (sN :: lw)[k]? = some x := ⟨_, List.getElem?_eq_getElem (by simp; omega)⟩
        have hEd := HREAL.out.2.1 k x hx
        obtain ⟨y, hy⟩ : ∃ y, (sN :: lw).getD (k + 1) sN = y := ⟨_, rfl⟩
        rw [hy] at hEd
        have hxy := hE.out x y hEd
        have hxn : (x : Int) < l4 := by omega
        have hyn : (y : Int) < l4 := by omega
        have hx0 : (0 : Int) ≤ x := by omega
        have hy0 : (0 : Int) ≤ y := by omega
        have hk0 : (0 : Int) ≤ k := by omega
        have cx := (hX.out.cell (p := ⟨g9, k, none⟩) (O9.out.lt g9 rfl).2).trans (got_cell O9.out hx)
        have hsf : bAt sb x = false := by
          rcases hbb : bAt sb x with _ | _
          · rfl
          · obtain ⟨j, hj, hl⟩ := (hSn.out.2 x (by omega)).1 hbb
            have := HREAL.out.2.2 j k x hl hx
            omega
        have cs := (hO.out.cellAt x (by omega)).trans (bools_get sb x (by have := hSn.out.1; omega))
        rw [hsf] at cs
        have fs := hO.out.frozenAt x
        obtain ⟨r1', g1'⟩ := hO.out.stored x (.bool true)
        rw [bools_set] at r1'
        obtain ⟨yy, hyy⟩ : ∃ yy : Nat, yy = x * l4 := ⟨_, rfl⟩
        have hy1 : yy + l4 ≤ NN := by
          have h1 : (x + 1) * l4 ≤ l4 * l4 := Nat.mul_le_mul_right l4 (by omega)
          rw [Nat.add_mul, Nat.one_mul] at h1
          have := HNN.out
          omega
        have hy2 : (x : Int) * (l4 : Int) = yy := by rw [hyy]; simp
        have wy : IntKind.i64.wrap ((x : Int) * (l4 : Int)) = (yy : Int) := by rw [hy2]; exact wrap_ok (by omega) (by omega)
        obtain ⟨z, hz⟩ : ∃ z : Nat, z = yy + y := ⟨_, rfl⟩
        have hzn : z < NN := by omega
        have x1 : (yy : Int) + (y : Int) = z := by omega
        have x2 : IntKind.i64.wrap ((yy : Int) + (y : Int)) = (z : Int) := by rw [x1]; exact wrap_ok (by omega) (by omega)
        have x3 : (z : Int) < NN := by omega
        have x4 : (0 : Int) ≤ (z : Int) := by omega
        have hRz : bAt bs z = true := by
          rw [hz, hyy]
          exact (HA.out.2 _ _ (by omega) (by omega)).2 hEd
        have NEXT : Hid (SeenAt l4 (sN :: lw) (k + 1) (sb.set x true) ∧ OwnsBs (wr.setCell ⟨w5.heap.size, x, none⟩ (.bool true)) w5.heap.size w5.heap.size l4 (sb.set x true) ∧ Below w5.heap.size w5 (wr.setCell ⟨w5.heap.size, x, none⟩ (.bool true))) := hidden ⟨hSn.out.next hx (by omega), r1', hX.out.grown g1' hX.out.size (fun k hk => by cases hk; exact Nat.le_refl _)⟩
        have lga : ga < w5.heap.size := HB5.out.2.1
        have lg9 : g9 < w5.heap.size := (O9.out.lt g9 rfl).2
        have ca := ((NEXT.out.2.2.cell (p := ⟨ga, z, none⟩) lga).trans (HB5.out.2.2 z hzn)).trans (congrArg (fun q => some (Value.bool q)) hRz)
        have HX := hidden hx
        have HY := hidden hy
        have wk : IntKind.i64.wrap ((k : Int) + 1) = (k : Int) + 1 := wrap_ok (by omega) (by omega)
        clear hx hy hEd hxy hsf r1' g1' hyy hy1 hy2 hz hzn x1 hRz
        by_cases hnx : (k : Int) + 1 < (lw.length : Int) + 1
        · have cn : (wr.setCell ⟨w5.heap.size, x, none⟩ (.bool true)).cell? ⟨g9, k + 1, none⟩ = some (.int .i64 (y : Int)) := (NEXT.out.2.2.cell (p := ⟨g9, k + 1, none⟩) lg9).trans (got_cell O9.out (by
            have h1 := HY.out
            rw [List.getD_eq_getElem?_getD, List.getElem?_eq_getElem (by simp; omega)] at h1
            rw [List.getElem?_eq_getElem (by simp; omega)]
            simpa using h1))
          go_wp2_with fail
          exact ⟨⟨k + 1, sb.set x true, by go_num, by omega, hidden NEXT.out.1, hidden NEXT.out.2.1, hidden NEXT.out.2.2⟩, by simp [intOf]; omega⟩
        · obtain rfl : sN = y := by
            have h1 := HY.out
            rw [List.getD_eq_getElem?_getD, List.getElem?_eq_none (by simp; omega)] at h1
            exact h1
          go_wp2_with fail
          exact ⟨⟨k + 1, sb.set x true, by go_num, by omega, hidden NEXT.out.1, hidden NEXT.out.2.1, hidden NEXT.out.2.2⟩, by simp [intOf]; omega⟩
      · go_wp2_with fail
        go_returns
        exact ⟨rfl, FIN.out.trans (hX.out.mono FIN.out.size)⟩

end Go.Proofs.Qxb6612201a
