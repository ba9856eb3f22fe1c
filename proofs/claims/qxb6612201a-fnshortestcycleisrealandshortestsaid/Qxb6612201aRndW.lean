/-
  WALK: a round of shortestCycle's first loop.
-/
import Derived.Test.Qxb6612201aRdW
import Derived.Test.Qxb6612201aWrW
import Derived.Test.Qxb6612201aWellW
namespace Go.Proofs.Qxb6612201a
open Go.RowKit Go.Shelf
set_option linter.unusedVariables false
set_option linter.unusedSimpArgs false

/-- What the loop reads of the history. -/
structure OpG (h : Hist) (K : KO) (bh gOps gO m bM : Nat) (c1 c3 c4 c5 : Value) (W0 : World) : Prop where
  box : W0.heap[bh]? = some (.cells #[.slice (some ⟨gOps, 0, none⟩) m m, c1, .slice (some ⟨gO, 0, none⟩) K.n K.n, c3, c4, c5] 42 (0, 0))
  ops : ∀ i, i < m → W0.cell? ⟨gOps, i * 4, none⟩ = some (.int .i64 (iAt h.ks i)) ∧ W0.cell? ⟨gOps, i * 4 + 1, none⟩ = some (.int .i64 (iAt h.ts i)) ∧ W0.cell? ⟨gOps, i * 4 + 2, none⟩ = some (.int .i64 (iAt h.los i)) ∧ W0.cell? ⟨gOps, i * 4 + 3, none⟩ = some (.int .i64 (iAt h.his i))
  ocs : ∀ i, i < K.n → W0.cell? ⟨gO, i, none⟩ = some (.int .i8 (iAt h.ocs i))
  far : ∀ k, k = bh ∨ k = gOps ∨ k = gO → k ∉ [K.bA, K.bW, K.bR, bM]

set_option maxHeartbeats 25600000 in
set_option maxRecDepth 1000000 in
theorem round_any (h : Hist) (K : KO) (bx bWrb bRdb bTree bM z H : Nat) (W0 : World) (L : Lists) (v : Nat → Nat → Value) (nM : Nat) (D : DataW Unit) (bh gOps gO m p : Nat) (c1 c3 c4 c5 : Value) (w : World) (Q : Exit → Act → World → Prop)
    (C : Hid (OpC K bx bWrb bRdb bTree bM z W0)) (G : Hid (OpG h K bh gOps gO m bM c1 c3 c4 c5 W0)) (A : Hid (OpAt K bM W0 L [] v nM D w)) (HZ : Hid (z = 2 ^ H)) (hz : (z : Int) ≤ 200000) (hN : Hid (K.N = 2 * z)) (hiz : Hid (K.items ≤ z)) (hn : Hid (K.n ≤ 1024)) (hp : (p : Int) < m) (hm : Hid (m ≤ 1024))
    (S : Hid (∀ i, i < m → OpOk K.n K.items (iAt h.ks i) (iAt h.ts i) (iAt h.los i) (iAt h.his i))) (T : Hid (Told h H p L)) (HW : Hid (WroteIs L.wr D)) (hnM : Hid (nM ≤ p)) (hcov : Hid (∀ lo hi : Nat, hi ≤ z → (cover H lo hi).length ≤ 100))
    (u0 u1 u3 u4 u10 u11 u12 u13 u14 u15 u16 u17 u18 u19 u20 u21 u22 u23 u24 u25 u26 u27 u28 u29 u30 u31 u32 u33 u34 u35 u36 u37 u38 u39 u40 u41 u42 u43 u44 u45 u46 u47 u48 u49 u50 u51 u52 u53 u54 u55 u56 u58 u60 u61 u62 u63 u64 u65 u66 u67 u68 u69 u70 u71 u72 u73 u74 u75 u76 u77 u78 u79 u80 u81 u82 u83 u84 u85 u86 u87 u88 u89 u90 u91 u92 u93 u94 u95 u96 u97 u98 u99 u100 u101 u102 u103 u104 u105 u106 u107 u108 u109 u110 u111 u112 u113 u114 u115 u116 u117 u118 u119 u120 u121 u122 u123 u124 u125 u126 u127 u128 u129 u130 u131 u132 u133 u134 u135 u136 u137 u138 u139 u140 u141 u142 u143 u144 u145 u146 u147 u148 u149 u150 u151 u152 u153 u154 u155 u156 u157 u158 u159 u160 u161 u162 u163 u164 u165 u166 u167 u168 u169 u170 u171 u172 u173 u174 u175 u176 u177 u178 u179 u180 u181 u182 u183 u184 u185 u186 u187 u188 u189 u190 u191 u192 u193 u194 u195 u196 u197 u198 u199 u200 u201 u202 u203 u204 u205 u206 u207 u208 u209 u210 u211 u212 u213 u214 u215 u216 u217 u218 u219 u220 u221 u222 u223 u224 u225 u226 u227 u228 u229 u230 u231 u232 u233 u234 u235 u236 u237 u238 u239 u240 u241 u242 u243 u244 u245 u246 u247 u248 u249 u250 u251 u252 u253 u254 u255 u256 u257 u258 u259 u260 u261 u262 u263 u264 u265 u266 u267 u268 u269 u270 u271 u272 u273 u274 u275 u276 u277 u278 u279 u280 u281 u282 u283 u284 u285 u286 u287 u288 u289 u290 u291 u292 u293 u294 u295 u296 u297 u298 u299 u300 u301 u302 u303 u304 u305 u306 u307 u308 u309 u310 u311 u312 u313 u314 u315 u316 u317 u318 u319 u320 u321 u322 u323 u324 u325 u326 u327 u328 u329 u330 u331 u332 u333 u334 u335 u336 u337 u338 u339 u340 u341 u342 u343 u344 u345 u346 u347 u348 u349 u350 u351 u352 u353 u354 : Value)
    (hQ : Hid (∀ (e : Exit) (w' : World) (v' : Nat → Nat → Value) (nM' : Nat) (D' : DataW Unit) (L' : Lists) (x10 x11 x12 x13 x14 x61 x62 x63 x64 x65 x66 x67 x68 x69 x70 x71 x72 x73 x74 x75 x76 x77 x78 x79 x80 x81 x82 x83 x84 x85 x86 x87 x88 x89 x90 x91 x92 x93 x94 x95 x96 x97 x98 x99 x100 x101 x102 x103 x104 x105 x106 x107 x108 x109 x110 x111 x112 x113 x114 x115 x116 x117 x118 x119 x120 x121 x122 x123 x124 x125 x126 x127 x128 x129 x130 x131 x132 x133 x134 x135 x136 x137 x138 x139 x140 x141 x142 x143 x144 x145 x146 x147 x148 x149 x150 x151 x152 x153 x154 x155 x156 x157 x158 x159 x160 x161 x162 x163 x164 x165 x166 x167 x168 x169 x170 x171 x172 x173 : Value), (e = .normal ∨ e = .exit 1) → OpAt K bM W0 L' [] v' nM' D' w' → Told h H (p + 1) L' → WroteIs L'.wr D' → nM' ≤ p + 1 → Q e { tmps := #[u0, u1, .pointer (some ⟨bh, 0, none⟩), u3, u4, .pointer (some ⟨bTree, 0, none⟩), .pointer (some ⟨bx, 0, none⟩), .pointer (some ⟨bWrb, 0, none⟩), .pointer (some ⟨bRdb, 0, none⟩), .map (some bM), x10, x11, x12, x13, x14, u15, u16, u17, u18, u19, u20, u21, u22, u23, u24, u25, u26, u27, u28, u29, u30, u31, u32, u33, u34, u35, u36, u37, u38, u39, u40, u41, u42, u43, u44, u45, u46, u47, u48, u49, u50, u51, u52, u53, u54, u55, u56, .slice (some ⟨gOps, 0, none⟩) m m, u58, .int .i64 (p : Int), u60, x61, x62, x63, x64, x65, x66, x67, x68, x69, x70, x71, x72, x73, x74, x75, x76, x77, x78, x79, x80, x81, x82, x83, x84, x85, x86, x87, x88, x89, x90, x91, x92, x93, x94, x95, x96, x97, x98, x99, x100, x101, x102, x103, x104, x105, x106, x107, x108, x109, x110, x111, x112, x113, x114, x115, x116, x117, x118, x119, x120, x121, x122, x123, x124, x125, x126, x127, x128, x129, x130, x131, x132, x133, x134, x135, x136, x137, x138, x139, x140, x141, x142, x143, x144, x145, x146, x147, x148, x149, x150, x151, x152, x153, x154, x155, x156, x157, x158, x159, x160, x161, x162, x163, x164, x165, x166, x167, x168, x169, x170, x171, x172, x173, u174, u175, u176, u177, u178, u179, u180, u181, u182, u183, u184, u185, u186, u187, u188, u189, u190, u191, u192, u193, u194, u195, u196, u197, u198, u199, u200, u201, u202, u203, u204, u205, u206, u207, u208, u209, u210, u211, u212, u213, u214, u215, u216, u217, u218, u219, u220, u221, u222, u223, u224, u225, u226, u227, u228, u229, u230, u231, u232, u233, u234, u235, u236, u237, u238, u239, u240, u241, u242, u243, u244, u245, u246, u247, u248, u249, u250, u251, u252, u253, u254, u255, u256, u257, u258, u259, u260, u261, u262, u263, u264, u265, u266, u267, u268, u269, u270, u271, u272, u273, u274, u275, u276, u277, u278, u279, u280, u281, u282, u283, u284, u285, u286, u287, u288, u289, u290, u291, u292, u293, u294, u295, u296, u297, u298, u299, u300, u301, u302, u303, u304, u305, u306, u307, u308, u309, u310, u311, u312, u313, u314, u315, u316, u317, u318, u319, u320, u321, u322, u323, u324, u325, u326, u327, u328, u329, u330, u331, u332, u333, u334, u335, u336, u337, u338, u339, u340, u341, u342, u343, u344, u345, u346, u347, u348, u349, u350, u351, u352, u353, u354], defers := [] } w')) :
    Code.wp Try.prog (lb1 Try.f14) Q { tmps := #[u0, u1, .pointer (some ⟨bh, 0, none⟩), u3, u4, .pointer (some ⟨bTree, 0, none⟩), .pointer (some ⟨bx, 0, none⟩), .pointer (some ⟨bWrb, 0, none⟩), .pointer (some ⟨bRdb, 0, none⟩), .map (some bM), u10, u11, u12, u13, u14, u15, u16, u17, u18, u19, u20, u21, u22, u23, u24, u25, u26, u27, u28, u29, u30, u31, u32, u33, u34, u35, u36, u37, u38, u39, u40, u41, u42, u43, u44, u45, u46, u47, u48, u49, u50, u51, u52, u53, u54, u55, u56, .slice (some ⟨gOps, 0, none⟩) m m, u58, .int .i64 (p : Int), u60, u61, u62, u63, u64, u65, u66, u67, u68, u69, u70, u71, u72, u73, u74, u75, u76, u77, u78, u79, u80, u81, u82, u83, u84, u85, u86, u87, u88, u89, u90, u91, u92, u93, u94, u95, u96, u97, u98, u99, u100, u101, u102, u103, u104, u105, u106, u107, u108, u109, u110, u111, u112, u113, u114, u115, u116, u117, u118, u119, u120, u121, u122, u123, u124, u125, u126, u127, u128, u129, u130, u131, u132, u133, u134, u135, u136, u137, u138, u139, u140, u141, u142, u143, u144, u145, u146, u147, u148, u149, u150, u151, u152, u153, u154, u155, u156, u157, u158, u159, u160, u161, u162, u163, u164, u165, u166, u167, u168, u169, u170, u171, u172, u173, u174, u175, u176, u177, u178, u179, u180, u181, u182, u183, u184, u185, u186, u187, u188, u189, u190, u191, u192, u193, u194, u195, u196, u197, u198, u199, u200, u201, u202, u203, u204, u205, u206, u207, u208, u209, u210, u211, u212, u213, u214, u215, u216, u217, u218, u219, u220, u221, u222, u223, u224, u225, u226, u227, u228, u229, u230, u231, u232, u233, u234, u235, u236, u237, u238, u239, u240, u241, u242, u243, u244, u245, u246, u247, u248, u249, u250, u251, u252, u253, u254, u255, u256, u257, u258, u259, u260, u261, u262, u263, u264, u265, u266, u267, u268, u269, u270, u271, u272, u273, u274, u275, u276, u277, u278, u279, u280, u281, u282, u283, u284, u285, u286, u287, u288, u289, u290, u291, u292, u293, u294, u295, u296, u297, u298, u299, u300, u301, u302, u303, u304, u305, u306, u307, u308, u309, u310, u311, u312, u313, u314, u315, u316, u317, u318, u319, u320, u321, u322, u323, u324, u325, u326, u327, u328, u329, u330, u331, u332, u333, u334, u335, u336, u337, u338, u339, u340, u341, u342, u343, u344, u345, u346, u347, u348, u349, u350, u351, u352, u353, u354], defers := [] } w := by
  have hb0 := C.out.base
  have lt0 : ∀ (k : Nat) (o : Obj), W0.heap[k]? = some o → k < K.base := fun k o h => by rw [← hb0]; exact (Array.getElem?_eq_some_iff.1 h).1
  have hp0 : (0 : Int) ≤ p := by omega
  have hops := G.out.ops p (by omega)
  have fO := G.out.far gOps (.inr (.inl rfl))
  have o0 := A.out.turned.cell hops.1 fO
  have o1 := A.out.turned.cell hops.2.1 fO
  have o2 := A.out.turned.cell hops.2.2.1 fO
  have o3 := A.out.turned.cell hops.2.2.2 fO
  have hS := S.out p (by omega)
  obtain ⟨kk, hkk⟩ : ∃ kk, iAt h.ks p = kk := ⟨_, rfl⟩
  obtain ⟨lo, hlo⟩ : ∃ lo, iAt h.los p = lo := ⟨_, rfl⟩
  obtain ⟨hi, hhi⟩ : ∃ hi, iAt h.his p = hi := ⟨_, rfl⟩
  obtain ⟨t, htt⟩ : ∃ t : Nat, iAt h.ts p = t := ⟨(iAt h.ts p).toNat, by have := hS.1; omega⟩
  rw [hkk] at o0 hS
  rw [htt] at o1 hS
  rw [hlo] at o2 hS
  rw [hhi] at o3 hS
  have HKK := hidden hkk
  have HLO := hidden hlo
  have HHI := hidden hhi
  have HTT := hidden htt
  have HS := hidden hS
  clear hkk hlo hhi htt hS hops fO lt0 hb0
  refine (show Code.wp Try.prog (Code.seq (headS (lb1 Try.f14)) (dropS 1 (lb1 Try.f14))) Q _ w from wp_seq ?_)
  conv => arg 2; whnf
  go_wp2_with fail
  obtain ⟨w1, hw1⟩ : ∃ w1, w.alloc (.cells #[.int .i64 kk, .int .i64 (t : Int), .int .i64 lo, .int .i64 hi] 37) = w1 := ⟨_, rfl⟩
  have t1 : Turned [] w w1 := by rw [← hw1]; exact Turned.of_grown (World.grownBy_alloc _ _ none) [] (fun k hk => by cases hk)
  have hbo : w1.heap[w.heap.size]? = some (.cells #[.int .i64 kk, .int .i64 (t : Int), .int .i64 lo, .int .i64 hi] 37 (0, 0)) := by rw [← hw1]; exact heap_alloc_new w _
  rw [hw1]
  clear hw1 o0 o1 o2 o3
  have A1 := A.out.fresh t1
  have LBO := hidden A.out.mem.rows.top
  obtain ⟨bo, hbo'⟩ : ∃ bo, w.heap.size = bo := ⟨_, rfl⟩
  rw [hbo'] at hbo A1 ⊢
  rw [hbo'] at LBO
  have q0 := cell_of_row w1 bo 0 _ _ _ hbo
  have q1 := cell_of_row w1 bo 1 _ _ _ hbo
  have q2 := cell_of_row w1 bo 2 _ _ _ hbo
  simp only [List.getElem?_toArray, List.getElem?_cons_zero, List.getElem?_cons_succ] at q0 q1 q2
  have HBO := hidden hbo
  have HA1 := hidden A1
  have b2 := cell_of_row w1 bh 2 _ _ _ (A1.keep G.out.box (G.out.far _ (.inl rfl)))
  simp only [List.getElem?_toArray, List.getElem?_cons_zero, List.getElem?_cons_succ] at b2
  have b3 := A1.turned.cell (G.out.ocs t (by have := HS.out.2.1; omega)) (G.out.far _ (.inr (.inr rfl)))
  obtain ⟨oc, hoc⟩ : ∃ oc, iAt h.ocs t = oc := ⟨_, rfl⟩
  rw [hoc] at b3
  have HOC := hidden hoc
  have ht : (t : Int) < K.n := HS.out.2.1
  have ht0 : (0 : Int) ≤ t := by omega
  have SKIP : Hid (∀ (hno : lo < 0 ∨ oc ≠ 1), Told h H (p + 1) L) := hidden fun hno => by
    have key : ∀ k, iAt h.ks p = k → (k = 0 ∨ k = 1) → iAt h.ocs (iAt h.ts p).toNat = 1 → False := fun k e1 e2 e3 => by
      rw [HTT.out, Int.toNat_natCast, HOC.out] at e3
      rw [HKK.out] at e1
      rcases hno with h1 | h1
      · rcases HS.out.2.2 with h2 | h2 | h2 <;> omega
      · exact h1 e3
    exact T.out.skip (fun hw => key _ hw.1 (.inr rfl) hw.2) (fun hr => key _ hr.1 (.inl rfl) hr.2)
  clear t1 hbo A1 hbo' hoc
  refine (show Code.wp Try.prog (Code.seq (headS (dropS 1 (lb1 Try.f14))) (dropS 2 (lb1 Try.f14))) Q _ w1 from wp_seq ?_)
  conv => arg 2; whnf
  by_cases hneg : lo < 0
  case pos =>
    go_wp2_with fail
    exact hQ.out (.exit 1) w1 v nM D L _ _ _ _ _ _ _ _ _ _ _ _ _ _ _ _ _ _ _ _ _ _ _ _ _ _ _ _ _ _ _ _ _ _ _ _ _ _ _ _ _ _ _ _ _ _ _ _ _ _ _ _ _ _ _ _ _ _ _ _ _ _ _ _ _ _ _ _ _ _ _ _ _ _ _ _ _ _ _ _ _ _ _ _ _ _ _ _ _ _ _ _ _ _ _ _ _ _ _ _ _ _ _ _ _ _ _ _ _ _ _ _ _ _ _ _ _ _ (.inr rfl) (HA1.out.less (by simp)) (SKIP.out (.inl hneg)) HW.out (by have := hnM.out; omega)
  by_cases hone : oc = 1
  case neg =>
    have hone' : (oc != 1) = true := by simp [hone]
    go_wp2_with fail
    exact hQ.out (.exit 1) w1 v nM D L _ _ _ _ _ _ _ _ _ _ _ _ _ _ _ _ _ _ _ _ _ _ _ _ _ _ _ _ _ _ _ _ _ _ _ _ _ _ _ _ _ _ _ _ _ _ _ _ _ _ _ _ _ _ _ _ _ _ _ _ _ _ _ _ _ _ _ _ _ _ _ _ _ _ _ _ _ _ _ _ _ _ _ _ _ _ _ _ _ _ _ _ _ _ _ _ _ _ _ _ _ _ _ _ _ _ _ _ _ _ _ _ _ _ _ _ _ _ (.inr rfl) (HA1.out.less (by simp)) (SKIP.out (.inr hone)) HW.out (by have := hnM.out; omega)
  subst hone
  go_wp2_with fail
  refine (show Code.wp Try.prog (Code.seq (headS (dropS 2 (lb1 Try.f14))) (dropS 3 (lb1 Try.f14))) Q _ w1 from wp_seq ?_)
  conv => arg 2; whnf
  clear b2 b3
  go_wp2_with fail
  obtain ⟨w2, hw2⟩ : ∃ w2, w1.alloc (.cells #[.int .i64 (p : Int), .int .i64 (t : Int)] 50) = w2 := ⟨_, rfl⟩
  have t2 : Turned [] w1 w2 := by rw [← hw2]; exact Turned.of_grown (World.grownBy_alloc _ _ none) [] (fun k hk => by cases hk)
  have hba : w2.heap[w1.heap.size]? = some (.cells #[.int .i64 (p : Int), .int .i64 (t : Int)] 50 (0, 0)) := by rw [← hw2]; exact heap_alloc_new w1 _
  rw [hw2]
  clear hw2 q0 q1 q2
  have A2 := HA1.out.fresh t2
  have LBA := hidden HA1.out.mem.rows.top
  obtain ⟨ba, hba'⟩ : ∃ ba, w1.heap.size = ba := ⟨_, rfl⟩
  rw [hba'] at hba A2 ⊢
  rw [hba'] at LBA
  have hbo2 := t2.keep HBO.out (by simp)
  have HBO2 := hidden hbo2
  have HBA := hidden hba
  have HA2 := hidden A2
  have q0 := cell_of_row w2 bo 0 _ _ _ hbo2
  simp only [List.getElem?_toArray, List.getElem?_cons_zero, List.getElem?_cons_succ] at q0
  clear t2 hba A2 hba' hbo2 HBO HA1
  refine (show Code.wp Try.prog (Code.seq (Code.seq (headS (headS (dropS 3 (lb1 Try.f14)))) (Code.cond (.tmp 82) (rdB Try.f14) .skip)) (dropS 4 (lb1 Try.f14))) Q _ w2 from wp_seq ?_)
  conv => arg 2; arg 1; whnf
  rcases HS.out.2.2 with ⟨rfl, r1, r2, r3⟩ | ⟨rfl, r1, r2, r3⟩ | ⟨_, rfl, _⟩
  · obtain ⟨x, rfl⟩ : ∃ x : Nat, lo = x := ⟨lo.toNat, by omega⟩
    obtain ⟨hi', rfl⟩ : ∃ x : Nat, hi = x := ⟨hi.toNat, by omega⟩
    have hh : (hi' : Int) ≤ z := by have := hiz.out; omega
    have hx : (x : Int) ≤ 200000 := by omega
    have TN : Hid (Told h H (p + 1) (L.reads t ((x : Int), (hi' : Int), (p : Int)) ((p : Int), (t : Int)) (cover H x hi'))) := hidden (by
      have h9 := T.out.read (t := t) ⟨HKK.out, by rw [HTT.out, Int.toNat_natCast]; exact HOC.out⟩ HTT.out (by
        rw [HLO.out, HHI.out]
        exact hcov.out _ _ (by omega))
      rw [HLO.out, HHI.out, HTT.out] at h9
      exact h9)
    clear r1 r2 r3 hneg
    go_wp2_with fail
    refine (show Code.wp Try.prog (rdB Try.f14) _ _ w2 from rd_any K bx bWrb bRdb bTree bM z H W0 L v nM D bo ba x hi' p t (.int .i64 0) w2 _ C HA2 HZ hz hN hx hh ht (hidden (hcov.out _ _ (by omega))) (hidden (by have := T.out.rdL t; have := hm.out; omega)) (hidden fun q => by have := T.out.rsL q; have := hm.out; omega) HBO2 HBA (hidden ⟨LBO.out, LBA.out⟩) _ _ _ _ _ _ _ _ _ _ _ _ _ _ _ _ _ _ _ _ _ _ _ _ _ _ _ _ _ _ _ _ _ _ _ _ _ _ _ _ _ _ _ _ _ _ _ _ _ _ _ _ _ _ _ _ _ _ _ _ _ _ _ _ _ _ _ _ _ _ _ _ _ _ _ _ _ _ _ _ _ _ _ _ _ _ _ _ _ _ _ _ _ _ _ _ _ _ _ _ _ _ _ _ _ _ _ _ _ _ _ _ _ _ _ _ _ _ _ _ _ _ _ _ _ _ _ _ _ _ _ _ _ _ _ _ _ _ _ _ _ _ _ _ _ _ _ _ _ _ _ _ _ _ _ _ _ _ _ _ _ _ _ _ _ _ _ _ _ _ _ _ _ _ _ _ _ _ _ _ _ _ _ _ _ _ _ _ _ _ _ _ _ _ _ _ _ _ _ _ _ _ _ _ _ _ _ _ _ _ _ _ _ _ _ _ _ _ _ _ _ _ _ _ _ _ _ _ _ _ _ _ _ _ _ _ _ _ _ _ _ _ _ _ _ _ _ _ _ _ _ _ _ _ _ _ _ _ _ _ _ _ _ _ _ _ _ _ _ _ _ _ _ _ _ _ _ _ _ _ _ _ _ _ _ _ _ _ _ _ _ _ _ _ _ _ _ _ _ _ _ _ _ _ _ _ _ _ _ _ _ _ _ _ _ _ _ _ _ _ _ _ _ _ _ _ _ _ _ _ _ _ _ _ _ _ _ _ _ _ _ _ _ _ _ _ _ _ _ (hidden ?_))
    intro w3 v3 y83 y84 y85 y86 y87 y88 y89 y90 y91 y92 y93 y94 y95 y96 y97 y98 y99 y100 y101 y102 y103 y104 y105 y106 y107 y108 A3
    exact hQ.out (.exit 1) w3 v3 nM D _ _ _ _ _ _ _ _ _ _ _ _ _ _ _ _ _ _ _ _ _ _ _ _ _ _ _ _ _ _ _ _ _ _ _ _ _ _ _ _ _ _ _ _ _ _ _ _ _ _ _ _ _ _ _ _ _ _ _ _ _ _ _ _ _ _ _ _ _ _ _ _ _ _ _ _ _ _ _ _ _ _ _ _ _ _ _ _ _ _ _ _ _ _ _ _ _ _ _ _ _ _ _ _ _ _ _ _ _ _ _ _ _ _ _ _ _ _ _ (.inr rfl) A3 TN.out HW.out (by have := hnM.out; omega)
  · obtain ⟨x, rfl⟩ : ∃ x : Nat, lo = x := ⟨lo.toNat, by omega⟩
    have hxi : (x : Int) < K.items := by omega
    have hxl : (x : Int) ≤ 1000000 := by have := hiz.out; omega
    have htl : (t : Int) ≤ 1000000 := by have := hn.out; omega
    have TN : Hid (∀ L', WroteL L L' t x p → Told h H (p + 1) L') := hidden (by
      have hw : h.WrAt p := ⟨HKK.out, by rw [HTT.out, Int.toNat_natCast]; exact HOC.out⟩
      rintro L' (⟨h1, rfl⟩ | ⟨k, e0, h1, h2, rfl⟩)
      · have h9 := T.out.writeNew hw HTT.out HLO.out h1
        rw [HTT.out] at h9
        exact h9
      · have h9 := T.out.writeOld hw HTT.out HLO.out h1 h2
        rw [HTT.out] at h9
        exact h9)
    clear r1 r2 r3 hneg
    go_wp2_with fail
    refine (show Code.wp Try.prog (wrB Try.f14) Q _ w2 from wr_any K bx bWrb bRdb bTree bM z W0 L v nM D bo ba x p t (.int .i64 1) hi w2 Q C HA2 hxi ht hxl htl (hidden (by have := hnM.out; have := hm.out; omega)) (hidden (by have := T.out.wsL x; have := hm.out; omega)) (hidden (by have := T.out.wrL t; have := hm.out; omega)) HW HBO2 HBA (hidden ⟨LBO.out, LBA.out⟩) _ _ _ _ _ _ _ _ _ _ _ _ _ _ _ _ _ _ _ _ _ _ _ _ _ _ _ _ _ _ _ _ _ _ _ _ _ _ _ _ _ _ _ _ _ _ _ _ _ _ _ _ _ _ _ _ _ _ _ _ _ _ _ _ _ _ _ _ _ _ _ _ _ _ _ _ _ _ _ _ _ _ _ _ _ _ _ _ _ _ _ _ _ _ _ _ _ _ _ _ _ _ _ _ _ _ _ _ _ _ _ _ _ _ _ _ _ _ _ _ _ _ _ _ _ _ _ _ _ _ _ _ _ _ _ _ _ _ _ _ _ _ _ _ _ _ _ _ _ _ _ _ _ _ _ _ _ _ _ _ _ _ _ _ _ _ _ _ _ _ _ _ _ _ _ _ _ _ _ _ _ _ _ _ _ _ _ _ _ _ _ _ _ _ _ _ _ _ _ _ _ _ _ _ _ _ _ _ _ _ _ _ _ _ _ _ _ _ _ _ _ _ _ _ _ _ _ _ _ _ _ _ _ _ _ _ _ _ _ _ _ _ _ _ _ _ _ _ _ _ _ _ _ _ _ _ _ _ _ _ _ _ _ _ _ _ _ _ _ _ _ _ _ _ _ _ _ _ _ _ _ _ _ _ _ _ _ _ _ _ _ _ _ _ _ _ _ _ _ _ _ _ _ _ _ _ _ _ _ _ _ _ _ _ _ _ _ _ _ _ _ _ _ _ _ _ _ _ _ _ _ _ _ _ _ _ _ _ _ _ _ _ _ _ _ _ _ _ _ (hidden ?_))
    intro w3 v3 nM3 D3 L3 y13 y14 y109 y110 y111 y112 y113 y114 y115 y116 y117 y118 y119 y120 y121 y122 y123 y124 y125 y126 y127 y128 y129 y130 y131 y132 y133 y134 y135 y136 y137 y138 y139 y140 y141 y142 y143 y144 y145 y146 y147 y148 y149 y150 y151 y152 y153 y154 y155 y156 y157 y158 y159 y160 y161 y162 y163 y164 y165 y166 y167 y168 y169 y170 y171 y172 y173 A3 hn3 hw3 hl3
    exact hQ.out .normal w3 v3 nM3 D3 L3 _ _ _ _ _ _ _ _ _ _ _ _ _ _ _ _ _ _ _ _ _ _ _ _ _ _ _ _ _ _ _ _ _ _ _ _ _ _ _ _ _ _ _ _ _ _ _ _ _ _ _ _ _ _ _ _ _ _ _ _ _ _ _ _ _ _ _ _ _ _ _ _ _ _ _ _ _ _ _ _ _ _ _ _ _ _ _ _ _ _ _ _ _ _ _ _ _ _ _ _ _ _ _ _ _ _ _ _ _ _ _ _ _ _ _ _ _ _ (.inl rfl) A3 (TN.out L3 hl3) hw3 (by have := hnM.out; omega)
  · omega

end Go.Proofs.Qxb6612201a
