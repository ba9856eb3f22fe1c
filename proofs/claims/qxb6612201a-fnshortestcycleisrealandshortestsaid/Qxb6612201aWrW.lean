/-
  WALK: shortestCycle's round at a write.
-/
import Derived.Test.Qxb6612201aR14W
import Derived.Test.Qxb6612201aR19W
import Derived.Test.Qxb6612201aR20W
namespace Go.Proofs.Qxb6612201a
open Go.RowKit Go.Shelf
set_option linter.unusedVariables false
set_option linter.unusedSimpArgs false

theorem isMap_of_own {w : World} {bM nM : Nat} {D : DataW Unit} (h : w.ownsMap Try.prog 62 (plainElem Try.prog 3) bM nM D) : Maps.IsMap D := by
  obtain ⟨es, clock, _, _, _, h1⟩ := h
  exact ⟨_, h1⟩

theorem wf_i64 {a : Int} (h1 : -9000000000000000000 ≤ a) (h2 : a ≤ 9000000000000000000) : (Lit.int .i64 a).wf = true := by
  have e1 : IntKind.i64.min = -9223372036854775808 := by decide
  have e2 : IntKind.i64.max = 9223372036854775807 := by decide
  show (decide (IntKind.i64.min ≤ a) && decide (a ≤ IntKind.i64.max)) = true
  rw [e1, e2]
  simp
  omega

theorem updN_updN {α : Type} (f : Nat → α) (t : Nat) (a b : α) : updN (updN f t a) t b = updN f t b := by
  funext t'
  by_cases e : t' = t
  · subst e; rw [updN_same, updN_same]
  · rw [updN_other _ _ e, updN_other _ _ e, updN_other _ _ e]

/-- What a write leaves of the lists. -/
def WroteL (L L' : Lists) (t x p : Nat) : Prop :=
  ((∀ e ∈ L.wr t, e.1 ≠ x) ∧ L' = L.writeNew t x ((x : Int), (p : Int), (p : Int)) ((p : Int), (t : Int))) ∨ ∃ (k : Nat) (e0 : Int × Int × Int), (L.wr t)[k]? = some e0 ∧ e0.1 = x ∧ L' = L.writeOld t x k (e0.1, e0.2.1, (p : Int)) ((p : Int), (t : Int))

set_option maxHeartbeats 25600000 in
set_option maxRecDepth 1000000 in
theorem wr_any (K : KO) (bx bWrb bRdb bTree bM z : Nat) (W0 : World) (L : Lists) (v : Nat → Nat → Value) (nM : Nat) (D : DataW Unit) (bo ba x p t : Nat) (k0 : Value) (hi9 : Int) (w : World) (Q : Exit → Act → World → Prop)
    (C : Hid (OpC K bx bWrb bRdb bTree bM z W0)) (A : Hid (OpAt K bM W0 L [ba, bo] v nM D w)) (hx : (x : Int) < K.items) (ht : (t : Int) < K.n) (hxl : (x : Int) ≤ 1000000) (htl : (t : Int) ≤ 1000000) (hnM : Hid (nM ≤ 1000000)) (hws : Hid ((L.ws x).length ≤ 200000)) (hwr : Hid ((L.wr t).length ≤ 200000)) (HW : Hid (WroteIs L.wr D))
    (hbo : Hid (w.heap[bo]? = some (.cells #[k0, .int .i64 (t : Int), .int .i64 (x : Int), .int .i64 hi9] 37 (0, 0)))) (hba : Hid (w.heap[ba]? = some (.cells #[.int .i64 (p : Int), .int .i64 (t : Int)] 50 (0, 0)))) (hlow : Hid (K.base ≤ bo ∧ K.base ≤ ba))
    (u0 u1 u2 u3 u4 u5 u8 u13 u14 u15 u16 u17 u18 u19 u20 u21 u22 u23 u24 u25 u26 u27 u28 u29 u30 u31 u32 u33 u34 u35 u36 u37 u38 u39 u40 u41 u42 u43 u44 u45 u46 u47 u48 u49 u50 u51 u52 u53 u54 u55 u56 u57 u58 u59 u60 u61 u62 u63 u64 u65 u66 u67 u68 u69 u70 u71 u72 u73 u74 u75 u76 u77 u78 u79 u80 u81 u82 u83 u84 u85 u86 u87 u88 u89 u90 u91 u92 u93 u94 u95 u96 u97 u98 u99 u100 u101 u102 u103 u104 u105 u106 u107 u108 u109 u110 u111 u112 u113 u114 u115 u116 u117 u118 u119 u120 u121 u122 u123 u124 u125 u126 u127 u128 u129 u130 u131 u132 u133 u134 u135 u136 u137 u138 u139 u140 u141 u142 u143 u144 u145 u146 u147 u148 u149 u150 u151 u152 u153 u154 u155 u156 u157 u158 u159 u160 u161 u162 u163 u164 u165 u166 u167 u168 u169 u170 u171 u172 u173 u174 u175 u176 u177 u178 u179 u180 u181 u182 u183 u184 u185 u186 u187 u188 u189 u190 u191 u192 u193 u194 u195 u196 u197 u198 u199 u200 u201 u202 u203 u204 u205 u206 u207 u208 u209 u210 u211 u212 u213 u214 u215 u216 u217 u218 u219 u220 u221 u222 u223 u224 u225 u226 u227 u228 u229 u230 u231 u232 u233 u234 u235 u236 u237 u238 u239 u240 u241 u242 u243 u244 u245 u246 u247 u248 u249 u250 u251 u252 u253 u254 u255 u256 u257 u258 u259 u260 u261 u262 u263 u264 u265 u266 u267 u268 u269 u270 u271 u272 u273 u274 u275 u276 u277 u278 u279 u280 u281 u282 u283 u284 u285 u286 u287 u288 u289 u290 u291 u292 u293 u294 u295 u296 u297 u298 u299 u300 u301 u302 u303 u304 u305 u306 u307 u308 u309 u310 u311 u312 u313 u314 u315 u316 u317 u318 u319 u320 u321 u322 u323 u324 u325 u326 u327 u328 u329 u330 u331 u332 u333 u334 u335 u336 u337 u338 u339 u340 u341 u342 u343 u344 u345 u346 u347 u348 u349 u350 u351 u352 u353 u354 : Value)
    (hQ : Hid (∀ (w' : World) (v' : Nat → Nat → Value) (nM' : Nat) (D' : DataW Unit) (L' : Lists) (x13 x14 x109 x110 x111 x112 x113 x114 x115 x116 x117 x118 x119 x120 x121 x122 x123 x124 x125 x126 x127 x128 x129 x130 x131 x132 x133 x134 x135 x136 x137 x138 x139 x140 x141 x142 x143 x144 x145 x146 x147 x148 x149 x150 x151 x152 x153 x154 x155 x156 x157 x158 x159 x160 x161 x162 x163 x164 x165 x166 x167 x168 x169 x170 x171 x172 x173 : Value), OpAt K bM W0 L' [] v' nM' D' w' → nM' ≤ nM + 1 → WroteIs L'.wr D' → WroteL L L' t x p → Q .normal { tmps := #[u0, u1, u2, u3, u4, u5, .pointer (some ⟨bx, 0, none⟩), .pointer (some ⟨bWrb, 0, none⟩), u8, .map (some bM), .int .i64 (p : Int), .pointer (some ⟨bo, 0, none⟩), .pointer (some ⟨ba, 0, none⟩), x13, x14, u15, u16, u17, u18, u19, u20, u21, u22, u23, u24, u25, u26, u27, u28, u29, u30, u31, u32, u33, u34, u35, u36, u37, u38, u39, u40, u41, u42, u43, u44, u45, u46, u47, u48, u49, u50, u51, u52, u53, u54, u55, u56, u57, u58, u59, u60, u61, u62, u63, u64, u65, u66, u67, u68, u69, u70, u71, u72, u73, u74, u75, u76, u77, u78, u79, u80, u81, u82, u83, u84, u85, u86, u87, u88, u89, u90, u91, u92, u93, u94, u95, u96, u97, u98, u99, u100, u101, u102, u103, u104, u105, u106, u107, u108, x109, x110, x111, x112, x113, x114, x115, x116, x117, x118, x119, x120, x121, x122, x123, x124, x125, x126, x127, x128, x129, x130, x131, x132, x133, x134, x135, x136, x137, x138, x139, x140, x141, x142, x143, x144, x145, x146, x147, x148, x149, x150, x151, x152, x153, x154, x155, x156, x157, x158, x159, x160, x161, x162, x163, x164, x165, x166, x167, x168, x169, x170, x171, x172, x173, u174, u175, u176, u177, u178, u179, u180, u181, u182, u183, u184, u185, u186, u187, u188, u189, u190, u191, u192, u193, u194, u195, u196, u197, u198, u199, u200, u201, u202, u203, u204, u205, u206, u207, u208, u209, u210, u211, u212, u213, u214, u215, u216, u217, u218, u219, u220, u221, u222, u223, u224, u225, u226, u227, u228, u229, u230, u231, u232, u233, u234, u235, u236, u237, u238, u239, u240, u241, u242, u243, u244, u245, u246, u247, u248, u249, u250, u251, u252, u253, u254, u255, u256, u257, u258, u259, u260, u261, u262, u263, u264, u265, u266, u267, u268, u269, u270, u271, u272, u273, u274, u275, u276, u277, u278, u279, u280, u281, u282, u283, u284, u285, u286, u287, u288, u289, u290, u291, u292, u293, u294, u295, u296, u297, u298, u299, u300, u301, u302, u303, u304, u305, u306, u307, u308, u309, u310, u311, u312, u313, u314, u315, u316, u317, u318, u319, u320, u321, u322, u323, u324, u325, u326, u327, u328, u329, u330, u331, u332, u333, u334, u335, u336, u337, u338, u339, u340, u341, u342, u343, u344, u345, u346, u347, u348, u349, u350, u351, u352, u353, u354], defers := [] } w')) :
    Code.wp Try.prog (wrB Try.f14) Q { tmps := #[u0, u1, u2, u3, u4, u5, .pointer (some ⟨bx, 0, none⟩), .pointer (some ⟨bWrb, 0, none⟩), u8, .map (some bM), .int .i64 (p : Int), .pointer (some ⟨bo, 0, none⟩), .pointer (some ⟨ba, 0, none⟩), u13, u14, u15, u16, u17, u18, u19, u20, u21, u22, u23, u24, u25, u26, u27, u28, u29, u30, u31, u32, u33, u34, u35, u36, u37, u38, u39, u40, u41, u42, u43, u44, u45, u46, u47, u48, u49, u50, u51, u52, u53, u54, u55, u56, u57, u58, u59, u60, u61, u62, u63, u64, u65, u66, u67, u68, u69, u70, u71, u72, u73, u74, u75, u76, u77, u78, u79, u80, u81, u82, u83, u84, u85, u86, u87, u88, u89, u90, u91, u92, u93, u94, u95, u96, u97, u98, u99, u100, u101, u102, u103, u104, u105, u106, u107, u108, u109, u110, u111, u112, u113, u114, u115, u116, u117, u118, u119, u120, u121, u122, u123, u124, u125, u126, u127, u128, u129, u130, u131, u132, u133, u134, u135, u136, u137, u138, u139, u140, u141, u142, u143, u144, u145, u146, u147, u148, u149, u150, u151, u152, u153, u154, u155, u156, u157, u158, u159, u160, u161, u162, u163, u164, u165, u166, u167, u168, u169, u170, u171, u172, u173, u174, u175, u176, u177, u178, u179, u180, u181, u182, u183, u184, u185, u186, u187, u188, u189, u190, u191, u192, u193, u194, u195, u196, u197, u198, u199, u200, u201, u202, u203, u204, u205, u206, u207, u208, u209, u210, u211, u212, u213, u214, u215, u216, u217, u218, u219, u220, u221, u222, u223, u224, u225, u226, u227, u228, u229, u230, u231, u232, u233, u234, u235, u236, u237, u238, u239, u240, u241, u242, u243, u244, u245, u246, u247, u248, u249, u250, u251, u252, u253, u254, u255, u256, u257, u258, u259, u260, u261, u262, u263, u264, u265, u266, u267, u268, u269, u270, u271, u272, u273, u274, u275, u276, u277, u278, u279, u280, u281, u282, u283, u284, u285, u286, u287, u288, u289, u290, u291, u292, u293, u294, u295, u296, u297, u298, u299, u300, u301, u302, u303, u304, u305, u306, u307, u308, u309, u310, u311, u312, u313, u314, u315, u316, u317, u318, u319, u320, u321, u322, u323, u324, u325, u326, u327, u328, u329, u330, u331, u332, u333, u334, u335, u336, u337, u338, u339, u340, u341, u342, u343, u344, u345, u346, u347, u348, u349, u350, u351, u352, u353, u354], defers := [] } w := by
  refine (show Code.wp Try.prog (Code.seq (headS (dropS 4 (lb1 Try.f14))) (dropS 5 (lb1 Try.f14))) _ _ _ from wp_seq ?_)
  have hb0 := C.out.base
  have lt0 : ∀ (k : Nat) (o : Obj), W0.heap[k]? = some o → k < K.base := fun k o h => by rw [← hb0]; exact (Array.getElem?_eq_some_iff.1 h).1
  have lbx := lt0 _ _ C.out.acc
  have lwr := lt0 _ _ C.out.wr
  obtain ⟨l1, l2⟩ := hlow.out
  obtain ⟨k1, k2, k3, k4, k5, k6⟩ := C.out.ok
  have hbA : bo ≠ K.bA ∧ ba ≠ K.bA ∧ bo ≠ K.bW ∧ ba ≠ K.bW ∧ bo ≠ bM ∧ ba ≠ bM := by have := C.out.ne; omega
  have h1 := K.at_ws L x C.out.ok
  have dm : K.dom K.bW x := .inr (.inl ⟨rfl, by omega⟩)
  have hF0 : ∀ k ∈ [ba, bo], k < w.heap.size := fun k hk => by
    simp only [List.mem_cons, List.not_mem_nil, or_false] at hk
    rcases hk with rfl | rfl
    · exact (Array.getElem?_eq_some_iff.1 hba.out).1
    · exact (Array.getElem?_eq_some_iff.1 hbo.out).1
  have LBX := hidden lbx
  refine r14_any K.base K.dom K.ty K.sz v (K.len L) (K.val L) bWrb K.bW bo ba K.items x p t k0 hi9 w _ (hidden A.out.mem.rows) (hidden dm) (hidden ⟨h1.2.2.1, h1.2.2.2⟩) (hidden (by rw [h1.1]; have := hws.out; omega)) (hidden fun k hk => ⟨by have := ((A.out.mem.rows.own _ _ dm).lt k hk).1; omega, fun e => A.out.mem.off _ _ dm k hk (by simp [e]), fun e => A.out.mem.off _ _ dm k hk (by simp [e])⟩) hx (by omega) (A.out.keep C.out.wr (C.out.far _ (.inr (.inl rfl)))) hbo.out hba.out _ _ _ _ _ _ _ _ _ _ _ _ _ _ _ _ _ _ _ _ _ _ _ _ _ _ _ _ _ _ _ _ _ _ _ _ _ _ _ _ _ _ _ _ _ _ _ _ _ _ _ _ _ _ _ _ _ _ _ _ _ _ _ _ _ _ _ _ _ _ _ _ _ _ _ _ _ _ _ _ _ _ _ _ _ _ _ _ _ _ _ _ _ _ _ _ _ _ _ _ _ _ _ _ _ _ _ _ _ _ _ _ _ _ _ _ _ _ _ _ _ _ _ _ _ _ _ _ _ _ _ _ _ _ _ _ _ _ _ _ _ _ _ _ _ _ _ _ _ _ _ _ _ _ _ _ _ _ _ _ _ _ _ _ _ _ _ _ _ _ _ _ _ _ _ _ _ _ _ _ _ _ _ _ _ _ _ _ _ _ _ _ _ _ _ _ _ _ _ _ _ _ _ _ _ _ _ _ _ _ _ _ _ _ _ _ _ _ _ _ _ _ _ _ _ _ _ _ _ _ _ _ _ _ _ _ _ _ _ _ _ _ _ _ _ _ _ _ _ _ _ _ _ _ _ _ _ _ _ _ _ _ _ _ _ _ _ _ _ _ _ _ _ _ _ _ _ _ _ _ _ _ _ _ _ _ _ _ _ _ _ _ _ _ _ _ _ _ _ _ _ _ _ _ _ _ _ _ _ _ _ _ _ _ _ _ _ _ _ _ _ _ _ _ _ _ _ _ _ _ _ _ _ _ _ _ _ _ _ _ _ _ _ _ _ _ _ _ _ _ _ _ (hidden ?_)
  intro w1 y109 y110 y111 y112 y113 y114 y115 y116 y117 y118 y119 y120 hp
  obtain ⟨v1, A1, keep1⟩ := A.out.pushed C.out (L' := L.wrote x ((p : Int), (t : Int))) dm (K.len_ws L x _ C.out.ok) (K.val_ws L x _ C.out.ok) hF0 hp
  have hbo1 := keep1 bo _ (by simp) hbA.2.2.1 hbo.out
  obtain ⟨l, hkey⟩ := key62 (wf_i64 (show -9000000000000000000 ≤ (t : Int) by omega) (by omega)) (wf_i64 (show -9000000000000000000 ≤ (x : Int) by omega) (by omega))
  have g1 := cell_of_row w1 bo 1 _ _ _ hbo1
  have g2 := cell_of_row w1 bo 2 _ _ _ hbo1
  simp only [List.getElem?_toArray, List.getElem?_cons_zero, List.getElem?_cons_succ] at g1 g2
  have HBO := hidden hbo1
  have HS1 : Hid (w.heap.size ≤ w1.heap.size) := hidden (by obtain ⟨_, _, h9, _⟩ := hp; exact h9.size)
  have HA := hidden A1
  have LB := hidden hbA
  have HM := hidden A1.map
  clear hbo1 A1 keep1 hp lt0 lbx lwr l1 l2 k1 k2 k3 k4 k5 k6 hbA h1 dm hF0 hb0
  have HKEY := hidden hkey
  clear hkey
  refine (show Code.wp Try.prog (Code.seq (headS (dropS 5 (lb1 Try.f14))) (dropS 6 (lb1 Try.f14))) Q _ w1 from wp_seq ?_)
  conv => arg 2; whnf
  go_wp2_with (first | (at_lookup; refine wpList_lookup_own_ok_int _ rfl _ _ 48 rfl 62 3 .i64 Try.keyed62 Try.underlying48 Try.underlying3 (Try.zero3 _) bM nM D rfl HM.out _ _ rfl HKEY.out ?_) | fail)
  intro c hc hwf
  obtain ⟨bb, hbb⟩ : ∃ bb, Maps.has D l = bb := ⟨_, rfl⟩
  rw [hbb]
  have HBB := hidden hbb
  have HC := hidden hc
  clear hc hwf hbb
  go_wp2_with fail
  refine (show Code.wp Try.prog (Code.seq (headS (dropS 6 (lb1 Try.f14))) (dropS 7 (lb1 Try.f14))) Q _ w1 from wp_seq ?_)
  conv => arg 2; whnf
  have ht0 : (0 : Int) ≤ t := by omega
  cases bb
  case true =>
    obtain ⟨k, e0, hk, he0, hck⟩ := HW.out.hit HKEY.out HBB.out HC.out
    subst hck
    have HK := hidden hk
    have HE := hidden he0
    clear hk he0
    go_wp2_with fail
    refine r20_any K bx bWrb bRdb bTree bM z W0 (L.wrote x ((p : Int), (t : Int))) [ba, bo] v1 nM D bo p t k k0 _ _ e0 w1 Q C HA ht HK HBO.out _ _ _ _ _ _ _ _ _ _ _ _ _ _ _ _ _ _ _ _ _ _ _ _ _ _ _ _ _ _ _ _ _ _ _ _ _ _ _ _ _ _ _ _ _ _ _ _ _ _ _ _ _ _ _ _ _ _ _ _ _ _ _ _ _ _ _ _ _ _ _ _ _ _ _ _ _ _ _ _ _ _ _ _ _ _ _ _ _ _ _ _ _ _ _ _ _ _ _ _ _ _ _ _ _ _ _ _ _ _ _ _ _ _ _ _ _ _ _ _ _ _ _ _ _ _ _ _ _ _ _ _ _ _ _ _ _ _ _ _ _ _ _ _ _ _ _ _ _ _ _ _ _ _ _ _ _ _ _ _ _ _ _ _ _ _ _ _ _ _ _ _ _ _ _ _ _ _ _ _ _ _ _ _ _ _ _ _ _ _ _ _ _ _ _ _ _ _ _ _ _ _ _ _ _ _ _ _ _ _ _ _ _ _ _ _ _ _ _ _ _ _ _ _ _ _ _ _ _ _ _ _ _ _ _ _ _ _ _ _ _ _ _ _ _ _ _ _ _ _ _ _ _ _ _ _ _ _ _ _ _ _ _ _ _ _ _ _ _ _ _ _ _ _ _ _ _ _ _ _ _ _ _ _ _ _ _ _ _ _ _ _ _ _ _ _ _ _ _ _ _ _ _ _ _ _ _ _ _ _ _ _ _ _ _ _ _ _ _ _ _ _ _ _ _ _ _ _ _ _ _ _ _ _ _ _ _ _ _ _ _ _ _ _ _ _ _ _ _ _ _ (hidden ?_)
    intro w2 y164 y165 y166 y167 y168 y169 y170 y171 y172 y173 A2
    refine hQ.out w2 v1 nM D _ _ _ _ _ _ _ _ _ _ _ _ _ _ _ _ _ _ _ _ _ _ _ _ _ _ _ _ _ _ _ _ _ _ _ _ _ _ _ _ _ _ _ _ _ _ _ _ _ _ _ _ _ _ _ _ _ _ _ _ _ _ _ _ _ _ _ _ (A2.less (by simp)) (by omega) (HW.out.old HK.out _) (.inr ⟨k, e0, HK.out, HE.out, rfl⟩)
  case false =>
    have dm : K.dom K.bA (t * 2) := .inl ⟨rfl, by omega⟩
    have h1 := K.at_wr (L.wrote x ((p : Int), (t : Int))) t
    have c0 := HA.out.mem.rows.cell _ _ dm
    obtain ⟨a9, cap9, hv9⟩ : ∃ a9 cap9, v1 K.bA (t * 2) = .slice a9 (L.wr t).length cap9 := by
      have ho := HA.out.mem.rows.own _ _ dm
      rw [h1.1] at ho
      rcases ho.2 with h2 | ⟨g, cap, cur, hv, _⟩
      · exact ⟨none, 0, by rw [h2.1]; have := h2.2; exact congrArg (fun q => Value.slice none q 0) this.symm⟩
      · exact ⟨_, cap, hv⟩
    rw [hv9] at c0
    have c1 := cell_of_row w1 bx 0 _ _ _ (HA.out.keep C.out.acc (C.out.far _ (.inl rfl)))
    simp only [List.getElem?_toArray, List.getElem?_cons_zero, List.getElem?_cons_succ] at c1
    have DM := hidden dm
    have H1 := hidden h1
    clear dm h1 hv9
    go_wp2_with (first | (at_mapUpdate; refine wpList_mapUpdate_own _ rfl _ _ _ 48 rfl 62 3 Try.keyed62 Try.underlying48 _ bM nM D rfl HM.out (by have := hnM.out; unfold maxLen; omega) _ _ l rfl rfl HKEY.out (.lit (.int .i64 ((L.wr t).length : Int))) [] (plainElem_int Try.underlying3 (wf_i64 (by omega) (by have := hwr.out; omega))) ?_) | fail)
    intro w2 hown2 hgrow2
    have A2 := HA.out.mapped C.out hown2 hgrow2
    have hbo2 : w2.heap[bo]? = _ := (hgrow2.block bo (Array.getElem?_eq_some_iff.1 HBO.out).1 (by simp; exact LB.out.2.2.2.2.1)).trans HBO.out
    have HA2 := hidden A2
    have HG2 := hidden hgrow2.size
    have HBO2 := hidden hbo2
    clear A2 hbo2 hown2 hgrow2 c0 c1 g1 g2
    go_wp2_with fail
    have hF2 : ∀ k ∈ [ba, bo], k < w2.heap.size := fun k hk => by
      simp only [List.mem_cons, List.not_mem_nil, or_false] at hk
      have s2 := HG2.out
      rcases hk with rfl | rfl
      · have := (Array.getElem?_eq_some_iff.1 hba.out).1
        have := HS1.out
        omega
      · exact (Array.getElem?_eq_some_iff.1 HBO2.out).1
    have e1 : (L.wrote x ((p : Int), (t : Int))).wr t = L.wr t := rfl
    have HF2 := hidden hF2
    clear hF2
    refine (show Code.wp Try.prog (dropS 2 (newB Try.f14)) _ _ w2 from r19_any K.base K.dom K.ty K.sz v1 (K.len (L.wrote x ((p : Int), (t : Int)))) (K.val (L.wrote x ((p : Int), (t : Int)))) bx K.bA bo K.n x p t k0 hi9 w2 _ (hidden HA2.out.mem.rows) DM (hidden ⟨H1.out.2.2.1, H1.out.2.2.2⟩) (hidden (by rw [H1.out.1, e1]; have := hwr.out; omega)) (hidden fun k hk => ⟨by have := ((HA2.out.mem.rows.own _ _ DM.out).lt k hk).1; have := LBX.out; omega, fun e => HA2.out.mem.off _ _ DM.out k hk (by simp [e])⟩) ht (by omega) (HA2.out.keep C.out.acc (C.out.far _ (.inl rfl))) HBO2.out _ _ _ _ _ _ _ _ _ _ _ _ _ _ _ _ _ _ _ _ _ _ _ _ _ _ _ _ _ _ _ _ _ _ _ _ _ _ _ _ _ _ _ _ _ _ _ _ _ _ _ _ _ _ _ _ _ _ _ _ _ _ _ _ _ _ _ _ _ _ _ _ _ _ _ _ _ _ _ _ _ _ _ _ _ _ _ _ _ _ _ _ _ _ _ _ _ _ _ _ _ _ _ _ _ _ _ _ _ _ _ _ _ _ _ _ _ _ _ _ _ _ _ _ _ _ _ _ _ _ _ _ _ _ _ _ _ _ _ _ _ _ _ _ _ _ _ _ _ _ _ _ _ _ _ _ _ _ _ _ _ _ _ _ _ _ _ _ _ _ _ _ _ _ _ _ _ _ _ _ _ _ _ _ _ _ _ _ _ _ _ _ _ _ _ _ _ _ _ _ _ _ _ _ _ _ _ _ _ _ _ _ _ _ _ _ _ _ _ _ _ _ _ _ _ _ _ _ _ _ _ _ _ _ _ _ _ _ _ _ _ _ _ _ _ _ _ _ _ _ _ _ _ _ _ _ _ _ _ _ _ _ _ _ _ _ _ _ _ _ _ _ _ _ _ _ _ _ _ _ _ _ _ _ _ _ _ _ _ _ _ _ _ _ _ _ _ _ _ _ _ _ _ _ _ _ _ _ _ _ _ _ _ _ _ _ _ _ _ _ _ _ _ _ _ _ _ _ _ _ _ _ _ _ _ _ _ _ _ _ _ _ _ _ _ _ _ _ _ _ _ _ (hidden ?_))
    intro w3 y147 y148 y149 y150 y151 y152 y153 y154 y155 y156 y157 y158 y159 y160 y161 y162 y163 hp3
    obtain ⟨v3, A3, keep3⟩ := HA2.out.pushed C.out (L' := (L.wrote x ((p : Int), (t : Int))).wrs t (L.wr t ++ [((x : Int), (p : Int), (0 : Int))])) DM.out (by rw [K.len_wr _ _ _ C.out.ok, H1.out.1, e1, List.length_append]; rfl) (by rw [K.val_wr _ _ _ C.out.ok, H1.out.2.1, e1, List.flatMap_append]; rfl) HF2.out hp3
    have hbo3 := keep3 bo _ (by simp) LB.out.1 HBO2.out
    have hget : (((L.wrote x ((p : Int), (t : Int))).wrs t (L.wr t ++ [((x : Int), (p : Int), (0 : Int))])).wr t)[(L.wr t).length]? = some ((x : Int), (p : Int), (0 : Int)) := by
      show (updN L.wr t (L.wr t ++ [((x : Int), (p : Int), (0 : Int))]) t)[(L.wr t).length]? = _
      rw [updN_same]
      simp
    have hL3 : ((L.wrote x ((p : Int), (t : Int))).wrs t (L.wr t ++ [((x : Int), (p : Int), (0 : Int))])).wrs t ((((L.wrote x ((p : Int), (t : Int))).wrs t (L.wr t ++ [((x : Int), (p : Int), (0 : Int))])).wr t).set (L.wr t).length ((x : Int), (p : Int), (p : Int))) = L.writeNew t x ((x : Int), (p : Int), (p : Int)) ((p : Int), (t : Int)) := by
      unfold Lists.wrs Lists.wrote Lists.writeNew
      simp only [updN_same, updN_updN]
      congr 2
      rw [List.set_append_right _ _ (Nat.le_refl _)]
      simp
    have HL3 := hidden hL3
    have HGET := hidden hget
    have HA3 := hidden A3
    clear A3 hp3 keep3 hL3 hget
    refine (show Code.wp Try.prog (dropS 7 (lb1 Try.f14)) Q _ w3 from r20_any K bx bWrb bRdb bTree bM z W0 _ [ba, bo] v3 (nM + 1) _ bo p t (L.wr t).length k0 _ _ ((x : Int), (p : Int), (0 : Int)) w3 Q C HA3 ht HGET hbo3 _ _ _ _ _ _ _ _ _ _ _ _ _ _ _ _ _ _ _ _ _ _ _ _ _ _ _ _ _ _ _ _ _ _ _ _ _ _ _ _ _ _ _ _ _ _ _ _ _ _ _ _ _ _ _ _ _ _ _ _ _ _ _ _ _ _ _ _ _ _ _ _ _ _ _ _ _ _ _ _ _ _ _ _ _ _ _ _ _ _ _ _ _ _ _ _ _ _ _ _ _ _ _ _ _ _ _ _ _ _ _ _ _ _ _ _ _ _ _ _ _ _ _ _ _ _ _ _ _ _ _ _ _ _ _ _ _ _ _ _ _ _ _ _ _ _ _ _ _ _ _ _ _ _ _ _ _ _ _ _ _ _ _ _ _ _ _ _ _ _ _ _ _ _ _ _ _ _ _ _ _ _ _ _ _ _ _ _ _ _ _ _ _ _ _ _ _ _ _ _ _ _ _ _ _ _ _ _ _ _ _ _ _ _ _ _ _ _ _ _ _ _ _ _ _ _ _ _ _ _ _ _ _ _ _ _ _ _ _ _ _ _ _ _ _ _ _ _ _ _ _ _ _ _ _ _ _ _ _ _ _ _ _ _ _ _ _ _ _ _ _ _ _ _ _ _ _ _ _ _ _ _ _ _ _ _ _ _ _ _ _ _ _ _ _ _ _ _ _ _ _ _ _ _ _ _ _ _ _ _ _ _ _ _ _ _ _ _ _ _ _ _ _ _ _ _ _ _ _ _ _ _ _ _ _ _ _ _ _ _ _ _ _ _ _ _ _ _ _ _ _ (hidden ?_))
    intro w4 y164 y165 y166 y167 y168 y169 y170 y171 y172 y173 A4
    rw [show (((x : Int), (p : Int), (0 : Int)) : Int × Int × Int).1 = (x : Int) from rfl, show (((x : Int), (p : Int), (0 : Int)) : Int × Int × Int).2.1 = (p : Int) from rfl, HL3.out] at A4
    refine hQ.out w4 v3 (nM + 1) _ _ _ _ _ _ _ _ _ _ _ _ _ _ _ _ _ _ _ _ _ _ _ _ _ _ _ _ _ _ _ _ _ _ _ _ _ _ _ _ _ _ _ _ _ _ _ _ _ _ _ _ _ _ _ _ _ _ _ _ _ _ _ _ _ _ _ _ _ (A4.less (by simp)) (Nat.le_refl _) (HW.out.new (isMap_of_own HM.out) HKEY.out HBB.out _ _) (.inl ⟨HW.out.miss HKEY.out HBB.out, rfl⟩)

end Go.Proofs.Qxb6612201a
