/-
  WALK: shortestCycle's 'acc[o.tx].writes[k].last = p'.
-/
import Derived.Test.Qxb6612201aOpC
namespace Go.Proofs.Qxb6612201a
open Go.RowKit Go.Shelf
set_option linter.unusedVariables false
set_option linter.unusedSimpArgs false

theorem flat_at (l : List (Int × Int × Int)) (k : Nat) (e : Int × Int × Int) (h : l[k]? = some e) : (l.flatMap encT)[k * 3 + 2]? = some (.int .i64 e.2.2) := by
  induction l generalizing k with
  | nil => simp at h
  | cons a l ih =>
    cases k with
    | zero =>
      simp at h
      subst h
      simp [encT]
    | succ k =>
      have h' : l[k]? = some e := by simpa using h
      rw [show (k + 1) * 3 + 2 = (k * 3 + 2) + 3 by omega]
      simp only [List.flatMap_cons]
      rw [List.getElem?_append_right (by simp [encT]), ← ih k h']
      simp [encT]

set_option maxHeartbeats 25600000 in
set_option maxRecDepth 1000000 in
theorem r20_any (K : KO) (bx bWrb bRdb bTree bM z : Nat) (W0 : World) (L : Lists) (F : List Nat) (v : Nat → Nat → Value) (nM : Nat) (D : DataW Unit) (bo p t k : Nat) (k0 x0 h0 : Value) (e : Int × Int × Int) (w : World) (Q : Exit → Act → World → Prop)
    (C : Hid (OpC K bx bWrb bRdb bTree bM z W0)) (A : Hid (OpAt K bM W0 L F v nM D w)) (ht : (t : Int) < K.n) (he : Hid ((L.wr t)[k]? = some e))
    (hbo : w.heap[bo]? = some (.cells #[k0, .int .i64 (t : Int), x0, h0] 37 (0, 0)))
    (u0 u1 u2 u3 u4 u5 u7 u8 u9 u12 u14 u15 u16 u17 u18 u19 u20 u21 u22 u23 u24 u25 u26 u27 u28 u29 u30 u31 u32 u33 u34 u35 u36 u37 u38 u39 u40 u41 u42 u43 u44 u45 u46 u47 u48 u49 u50 u51 u52 u53 u54 u55 u56 u57 u58 u59 u60 u61 u62 u63 u64 u65 u66 u67 u68 u69 u70 u71 u72 u73 u74 u75 u76 u77 u78 u79 u80 u81 u82 u83 u84 u85 u86 u87 u88 u89 u90 u91 u92 u93 u94 u95 u96 u97 u98 u99 u100 u101 u102 u103 u104 u105 u106 u107 u108 u109 u110 u111 u112 u113 u114 u115 u116 u117 u118 u119 u120 u121 u122 u123 u124 u125 u126 u127 u128 u129 u130 u131 u132 u133 u134 u135 u136 u137 u138 u139 u140 u141 u142 u143 u144 u145 u146 u147 u148 u149 u150 u151 u152 u153 u154 u155 u156 u157 u158 u159 u160 u161 u162 u163 u164 u165 u166 u167 u168 u169 u170 u171 u172 u173 u174 u175 u176 u177 u178 u179 u180 u181 u182 u183 u184 u185 u186 u187 u188 u189 u190 u191 u192 u193 u194 u195 u196 u197 u198 u199 u200 u201 u202 u203 u204 u205 u206 u207 u208 u209 u210 u211 u212 u213 u214 u215 u216 u217 u218 u219 u220 u221 u222 u223 u224 u225 u226 u227 u228 u229 u230 u231 u232 u233 u234 u235 u236 u237 u238 u239 u240 u241 u242 u243 u244 u245 u246 u247 u248 u249 u250 u251 u252 u253 u254 u255 u256 u257 u258 u259 u260 u261 u262 u263 u264 u265 u266 u267 u268 u269 u270 u271 u272 u273 u274 u275 u276 u277 u278 u279 u280 u281 u282 u283 u284 u285 u286 u287 u288 u289 u290 u291 u292 u293 u294 u295 u296 u297 u298 u299 u300 u301 u302 u303 u304 u305 u306 u307 u308 u309 u310 u311 u312 u313 u314 u315 u316 u317 u318 u319 u320 u321 u322 u323 u324 u325 u326 u327 u328 u329 u330 u331 u332 u333 u334 u335 u336 u337 u338 u339 u340 u341 u342 u343 u344 u345 u346 u347 u348 u349 u350 u351 u352 u353 u354 : Value)
    (hQ : Hid (∀ (w' : World) (x164 x165 x166 x167 x168 x169 x170 x171 x172 x173 : Value), OpAt K bM W0 (L.wrs t ((L.wr t).set k (e.1, e.2.1, (p : Int)))) F v nM D w' → Q .normal { tmps := #[u0, u1, u2, u3, u4, u5, .pointer (some ⟨bx, 0, none⟩), u7, u8, u9, .int .i64 (p : Int), .pointer (some ⟨bo, 0, none⟩), u12, .int .i64 (k : Int), u14, u15, u16, u17, u18, u19, u20, u21, u22, u23, u24, u25, u26, u27, u28, u29, u30, u31, u32, u33, u34, u35, u36, u37, u38, u39, u40, u41, u42, u43, u44, u45, u46, u47, u48, u49, u50, u51, u52, u53, u54, u55, u56, u57, u58, u59, u60, u61, u62, u63, u64, u65, u66, u67, u68, u69, u70, u71, u72, u73, u74, u75, u76, u77, u78, u79, u80, u81, u82, u83, u84, u85, u86, u87, u88, u89, u90, u91, u92, u93, u94, u95, u96, u97, u98, u99, u100, u101, u102, u103, u104, u105, u106, u107, u108, u109, u110, u111, u112, u113, u114, u115, u116, u117, u118, u119, u120, u121, u122, u123, u124, u125, u126, u127, u128, u129, u130, u131, u132, u133, u134, u135, u136, u137, u138, u139, u140, u141, u142, u143, u144, u145, u146, u147, u148, u149, u150, u151, u152, u153, u154, u155, u156, u157, u158, u159, u160, u161, u162, u163, x164, x165, x166, x167, x168, x169, x170, x171, x172, x173, u174, u175, u176, u177, u178, u179, u180, u181, u182, u183, u184, u185, u186, u187, u188, u189, u190, u191, u192, u193, u194, u195, u196, u197, u198, u199, u200, u201, u202, u203, u204, u205, u206, u207, u208, u209, u210, u211, u212, u213, u214, u215, u216, u217, u218, u219, u220, u221, u222, u223, u224, u225, u226, u227, u228, u229, u230, u231, u232, u233, u234, u235, u236, u237, u238, u239, u240, u241, u242, u243, u244, u245, u246, u247, u248, u249, u250, u251, u252, u253, u254, u255, u256, u257, u258, u259, u260, u261, u262, u263, u264, u265, u266, u267, u268, u269, u270, u271, u272, u273, u274, u275, u276, u277, u278, u279, u280, u281, u282, u283, u284, u285, u286, u287, u288, u289, u290, u291, u292, u293, u294, u295, u296, u297, u298, u299, u300, u301, u302, u303, u304, u305, u306, u307, u308, u309, u310, u311, u312, u313, u314, u315, u316, u317, u318, u319, u320, u321, u322, u323, u324, u325, u326, u327, u328, u329, u330, u331, u332, u333, u334, u335, u336, u337, u338, u339, u340, u341, u342, u343, u344, u345, u346, u347, u348, u349, u350, u351, u352, u353, u354], defers := [] } w')) :
    Code.wp Try.prog (dropS 7 (lb1 Try.f14)) Q { tmps := #[u0, u1, u2, u3, u4, u5, .pointer (some ⟨bx, 0, none⟩), u7, u8, u9, .int .i64 (p : Int), .pointer (some ⟨bo, 0, none⟩), u12, .int .i64 (k : Int), u14, u15, u16, u17, u18, u19, u20, u21, u22, u23, u24, u25, u26, u27, u28, u29, u30, u31, u32, u33, u34, u35, u36, u37, u38, u39, u40, u41, u42, u43, u44, u45, u46, u47, u48, u49, u50, u51, u52, u53, u54, u55, u56, u57, u58, u59, u60, u61, u62, u63, u64, u65, u66, u67, u68, u69, u70, u71, u72, u73, u74, u75, u76, u77, u78, u79, u80, u81, u82, u83, u84, u85, u86, u87, u88, u89, u90, u91, u92, u93, u94, u95, u96, u97, u98, u99, u100, u101, u102, u103, u104, u105, u106, u107, u108, u109, u110, u111, u112, u113, u114, u115, u116, u117, u118, u119, u120, u121, u122, u123, u124, u125, u126, u127, u128, u129, u130, u131, u132, u133, u134, u135, u136, u137, u138, u139, u140, u141, u142, u143, u144, u145, u146, u147, u148, u149, u150, u151, u152, u153, u154, u155, u156, u157, u158, u159, u160, u161, u162, u163, u164, u165, u166, u167, u168, u169, u170, u171, u172, u173, u174, u175, u176, u177, u178, u179, u180, u181, u182, u183, u184, u185, u186, u187, u188, u189, u190, u191, u192, u193, u194, u195, u196, u197, u198, u199, u200, u201, u202, u203, u204, u205, u206, u207, u208, u209, u210, u211, u212, u213, u214, u215, u216, u217, u218, u219, u220, u221, u222, u223, u224, u225, u226, u227, u228, u229, u230, u231, u232, u233, u234, u235, u236, u237, u238, u239, u240, u241, u242, u243, u244, u245, u246, u247, u248, u249, u250, u251, u252, u253, u254, u255, u256, u257, u258, u259, u260, u261, u262, u263, u264, u265, u266, u267, u268, u269, u270, u271, u272, u273, u274, u275, u276, u277, u278, u279, u280, u281, u282, u283, u284, u285, u286, u287, u288, u289, u290, u291, u292, u293, u294, u295, u296, u297, u298, u299, u300, u301, u302, u303, u304, u305, u306, u307, u308, u309, u310, u311, u312, u313, u314, u315, u316, u317, u318, u319, u320, u321, u322, u323, u324, u325, u326, u327, u328, u329, u330, u331, u332, u333, u334, u335, u336, u337, u338, u339, u340, u341, u342, u343, u344, u345, u346, u347, u348, u349, u350, u351, u352, u353, u354], defers := [] } w := by
  conv => arg 2; whnf
  have hl : (k : Int) < (L.wr t).length := by have := (List.getElem?_eq_some_iff.1 he.out).1; omega
  have hl0 : (0 : Int) ≤ k := by omega
  have ht0 : (0 : Int) ≤ t := by omega
  have dm : K.dom K.bA (t * 2) := .inl ⟨rfl, by omega⟩
  have h1 := K.at_wr L t
  have ho := A.out.mem.rows.own _ _ dm
  have c0 := A.out.mem.rows.cell _ _ dm
  rw [h1.1, h1.2.1, h1.2.2.1, h1.2.2.2] at ho
  have hv : ∃ g cap, v K.bA (t * 2) = .slice (some ⟨g, 0, none⟩) (L.wr t).length cap := by
    rcases ho.2 with h2 | ⟨g, cap, cur, hv, hb, hg, hr⟩
    · exfalso
      have := h2.2
      omega
    · exact ⟨g, cap, hv⟩
  obtain ⟨g, cap, hv⟩ := hv
  have hg : (v K.bA (t * 2)).ownBlock = some g := by rw [hv]; rfl
  rw [hv] at ho c0
  have c1 := cell_of_row w bx 0 _ _ _ (A.out.keep C.out.acc (C.out.far _ (.inl rfl)))
  have c2 := cell_of_row w bo 1 _ _ _ hbo
  simp only [List.getElem?_toArray, List.getElem?_cons_zero, List.getElem?_cons_succ] at c1 c2
  have c3 := ho.cellAt (k * 3 + 2) (by omega)
  have f3 := ho.frozenAt (k * 3 + 2)
  rw [flat_at _ _ _ he.out] at c3
  have NEXT : Hid (OpAt K bM W0 (L.wrs t ((L.wr t).set k (e.1, e.2.1, (p : Int)))) F v nM D (w.setCell ⟨g, k * 3 + 2, none⟩ (.int .i64 (p : Int)))) := hidden (A.out.setIn C.out dm (by
      rw [K.len_wr _ _ _ C.out.ok]
      funext b o
      by_cases e : b = K.bA ∧ o = t * 2
      · obtain ⟨rfl, rfl⟩ := e
        rw [upd_same, h1.1, List.length_set]
      · rw [upd_other _ _ e]) (by
      rw [K.val_wr _ _ _ C.out.ok, h1.2.1, flat_set _ _ _ _ he.out]) hg)
  clear ho h1 hv dm hbo
  go_wp2_with fail
  exact hQ.out _ _ _ _ _ _ _ _ _ _ _ NEXT.out

end Go.Proofs.Qxb6612201a
