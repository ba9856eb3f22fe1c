/-
  WALK: shortestCycle's 'writes[o.lo] = append(writes[o.lo], a)'.
-/
import Derived.Test.Qxb6612201aOpT
namespace Go.Proofs.Qxb6612201a
open Go.RowKit Go.Shelf
set_option linter.unusedVariables false
set_option linter.unusedSimpArgs false

set_option maxHeartbeats 25600000 in
set_option maxRecDepth 1000000 in
theorem r14_any (base : Nat) (dom : Nat → Nat → Prop) (ty sz : Nat → Nat → Nat) (v : Nat → Nat → Value) (len : Nat → Nat → Nat) (val : Nat → Nat → List Value) (bWrb bW bo ba items x p t : Nat) (k0 : Value) (hi9 : Int) (w : World) (Q : Exit → Act → World → Prop)
    (hR : Hid (Rows base dom ty sz v len val w)) (hd : Hid (dom (bW) (x))) (ht : Hid (ty (bW) (x) = 50 ∧ sz (bW) (x) = 2)) (hl : Hid (len (bW) (x) ≤ 1000000)) (HF : Hid (∀ k, (v bW x).ownBlock = some k → k ≠ bWrb ∧ k ≠ bo ∧ k ≠ ba)) (hx : (x : Int) < items) (hx0 : (0 : Int) ≤ x) (hb : w.heap[bWrb]? = some (.cells #[.slice (some ⟨bW, 0, none⟩) items items] 47 (0, 0))) (hbo : w.heap[bo]? = some (.cells #[k0, .int .i64 (t : Int), .int .i64 (x : Int), .int .i64 hi9] 37 (0, 0))) (ha : w.heap[ba]? = some (.cells #[.int .i64 (p : Int), .int .i64 (t : Int)] 50 (0, 0)))
    (u0 u1 u2 u3 u4 u5 u6 u8 u9 u10 u13 u14 u15 u16 u17 u18 u19 u20 u21 u22 u23 u24 u25 u26 u27 u28 u29 u30 u31 u32 u33 u34 u35 u36 u37 u38 u39 u40 u41 u42 u43 u44 u45 u46 u47 u48 u49 u50 u51 u52 u53 u54 u55 u56 u57 u58 u59 u60 u61 u62 u63 u64 u65 u66 u67 u68 u69 u70 u71 u72 u73 u74 u75 u76 u77 u78 u79 u80 u81 u82 u83 u84 u85 u86 u87 u88 u89 u90 u91 u92 u93 u94 u95 u96 u97 u98 u99 u100 u101 u102 u103 u104 u105 u106 u107 u108 u109 u110 u111 u112 u113 u114 u115 u116 u117 u118 u119 u120 u121 u122 u123 u124 u125 u126 u127 u128 u129 u130 u131 u132 u133 u134 u135 u136 u137 u138 u139 u140 u141 u142 u143 u144 u145 u146 u147 u148 u149 u150 u151 u152 u153 u154 u155 u156 u157 u158 u159 u160 u161 u162 u163 u164 u165 u166 u167 u168 u169 u170 u171 u172 u173 u174 u175 u176 u177 u178 u179 u180 u181 u182 u183 u184 u185 u186 u187 u188 u189 u190 u191 u192 u193 u194 u195 u196 u197 u198 u199 u200 u201 u202 u203 u204 u205 u206 u207 u208 u209 u210 u211 u212 u213 u214 u215 u216 u217 u218 u219 u220 u221 u222 u223 u224 u225 u226 u227 u228 u229 u230 u231 u232 u233 u234 u235 u236 u237 u238 u239 u240 u241 u242 u243 u244 u245 u246 u247 u248 u249 u250 u251 u252 u253 u254 u255 u256 u257 u258 u259 u260 u261 u262 u263 u264 u265 u266 u267 u268 u269 u270 u271 u272 u273 u274 u275 u276 u277 u278 u279 u280 u281 u282 u283 u284 u285 u286 u287 u288 u289 u290 u291 u292 u293 u294 u295 u296 u297 u298 u299 u300 u301 u302 u303 u304 u305 u306 u307 u308 u309 u310 u311 u312 u313 u314 u315 u316 u317 u318 u319 u320 u321 u322 u323 u324 u325 u326 u327 u328 u329 u330 u331 u332 u333 u334 u335 u336 u337 u338 u339 u340 u341 u342 u343 u344 u345 u346 u347 u348 u349 u350 u351 u352 u353 u354 : Value)
    (hQ : Hid (∀ (w' : World) (x109 x110 x111 x112 x113 x114 x115 x116 x117 x118 x119 x120 : Value), PutPost base dom ty sz v len val (bW) (x) [.int .i64 (p : Int), .int .i64 (t : Int)] w w' → Q .normal { tmps := #[u0, u1, u2, u3, u4, u5, u6, .pointer (some ⟨bWrb, 0, none⟩), u8, u9, u10, .pointer (some ⟨bo, 0, none⟩), .pointer (some ⟨ba, 0, none⟩), u13, u14, u15, u16, u17, u18, u19, u20, u21, u22, u23, u24, u25, u26, u27, u28, u29, u30, u31, u32, u33, u34, u35, u36, u37, u38, u39, u40, u41, u42, u43, u44, u45, u46, u47, u48, u49, u50, u51, u52, u53, u54, u55, u56, u57, u58, u59, u60, u61, u62, u63, u64, u65, u66, u67, u68, u69, u70, u71, u72, u73, u74, u75, u76, u77, u78, u79, u80, u81, u82, u83, u84, u85, u86, u87, u88, u89, u90, u91, u92, u93, u94, u95, u96, u97, u98, u99, u100, u101, u102, u103, u104, u105, u106, u107, u108, x109, x110, x111, x112, x113, x114, x115, x116, x117, x118, x119, x120, u121, u122, u123, u124, u125, u126, u127, u128, u129, u130, u131, u132, u133, u134, u135, u136, u137, u138, u139, u140, u141, u142, u143, u144, u145, u146, u147, u148, u149, u150, u151, u152, u153, u154, u155, u156, u157, u158, u159, u160, u161, u162, u163, u164, u165, u166, u167, u168, u169, u170, u171, u172, u173, u174, u175, u176, u177, u178, u179, u180, u181, u182, u183, u184, u185, u186, u187, u188, u189, u190, u191, u192, u193, u194, u195, u196, u197, u198, u199, u200, u201, u202, u203, u204, u205, u206, u207, u208, u209, u210, u211, u212, u213, u214, u215, u216, u217, u218, u219, u220, u221, u222, u223, u224, u225, u226, u227, u228, u229, u230, u231, u232, u233, u234, u235, u236, u237, u238, u239, u240, u241, u242, u243, u244, u245, u246, u247, u248, u249, u250, u251, u252, u253, u254, u255, u256, u257, u258, u259, u260, u261, u262, u263, u264, u265, u266, u267, u268, u269, u270, u271, u272, u273, u274, u275, u276, u277, u278, u279, u280, u281, u282, u283, u284, u285, u286, u287, u288, u289, u290, u291, u292, u293, u294, u295, u296, u297, u298, u299, u300, u301, u302, u303, u304, u305, u306, u307, u308, u309, u310, u311, u312, u313, u314, u315, u316, u317, u318, u319, u320, u321, u322, u323, u324, u325, u326, u327, u328, u329, u330, u331, u332, u333, u334, u335, u336, u337, u338, u339, u340, u341, u342, u343, u344, u345, u346, u347, u348, u349, u350, u351, u352, u353, u354], defers := [] } w')) :
    Code.wp Try.prog (headS (dropS 4 (lb1 Try.f14))) Q { tmps := #[u0, u1, u2, u3, u4, u5, u6, .pointer (some ⟨bWrb, 0, none⟩), u8, u9, u10, .pointer (some ⟨bo, 0, none⟩), .pointer (some ⟨ba, 0, none⟩), u13, u14, u15, u16, u17, u18, u19, u20, u21, u22, u23, u24, u25, u26, u27, u28, u29, u30, u31, u32, u33, u34, u35, u36, u37, u38, u39, u40, u41, u42, u43, u44, u45, u46, u47, u48, u49, u50, u51, u52, u53, u54, u55, u56, u57, u58, u59, u60, u61, u62, u63, u64, u65, u66, u67, u68, u69, u70, u71, u72, u73, u74, u75, u76, u77, u78, u79, u80, u81, u82, u83, u84, u85, u86, u87, u88, u89, u90, u91, u92, u93, u94, u95, u96, u97, u98, u99, u100, u101, u102, u103, u104, u105, u106, u107, u108, u109, u110, u111, u112, u113, u114, u115, u116, u117, u118, u119, u120, u121, u122, u123, u124, u125, u126, u127, u128, u129, u130, u131, u132, u133, u134, u135, u136, u137, u138, u139, u140, u141, u142, u143, u144, u145, u146, u147, u148, u149, u150, u151, u152, u153, u154, u155, u156, u157, u158, u159, u160, u161, u162, u163, u164, u165, u166, u167, u168, u169, u170, u171, u172, u173, u174, u175, u176, u177, u178, u179, u180, u181, u182, u183, u184, u185, u186, u187, u188, u189, u190, u191, u192, u193, u194, u195, u196, u197, u198, u199, u200, u201, u202, u203, u204, u205, u206, u207, u208, u209, u210, u211, u212, u213, u214, u215, u216, u217, u218, u219, u220, u221, u222, u223, u224, u225, u226, u227, u228, u229, u230, u231, u232, u233, u234, u235, u236, u237, u238, u239, u240, u241, u242, u243, u244, u245, u246, u247, u248, u249, u250, u251, u252, u253, u254, u255, u256, u257, u258, u259, u260, u261, u262, u263, u264, u265, u266, u267, u268, u269, u270, u271, u272, u273, u274, u275, u276, u277, u278, u279, u280, u281, u282, u283, u284, u285, u286, u287, u288, u289, u290, u291, u292, u293, u294, u295, u296, u297, u298, u299, u300, u301, u302, u303, u304, u305, u306, u307, u308, u309, u310, u311, u312, u313, u314, u315, u316, u317, u318, u319, u320, u321, u322, u323, u324, u325, u326, u327, u328, u329, u330, u331, u332, u333, u334, u335, u336, u337, u338, u339, u340, u341, u342, u343, u344, u345, u346, u347, u348, u349, u350, u351, u352, u353, u354], defers := [] } w := by
  conv => arg 2; whnf
  obtain ⟨i0, hi, hz0, hz1, hz2⟩ := info_parts Try.info50
  obtain ⟨sv, hsv⟩ : ∃ sv, v (bW) (x) = sv := ⟨_, rfl⟩
  have c9 := hR.out.cell _ _ hd.out
  have f9 := hR.out.free _ _ hd.out
  have ho9 := hR.out.own _ _ hd.out
  rw [ht.out.1, ht.out.2] at ho9
  have lt9 : (bW) < w.heap.size := Nat.lt_of_lt_of_le (hR.out.low _ _ hd.out) hR.out.top
  have HSV := hidden hsv
  have far9 : (bW) ∉ sv.ownBlock.toList := fun e => by
    rw [Option.mem_toList, ← hsv] at e
    have h1 := ((hR.out.own _ _ hd.out).lt _ e).1
    have h2 := hR.out.low _ _ hd.out
    omega
  rw [hsv] at c9 ho9
  have m1 := cell_of_row w bWrb 0 _ _ _ hb
  have m2 := cell_of_row w bo 2 _ _ _ hbo
  have m3 := cell_of_row w ba 0 _ _ _ ha
  have m4 := cell_of_row w ba 1 _ _ _ ha
  simp only [List.getElem?_toArray, List.getElem?_cons_zero, List.getElem?_cons_succ] at m1 m2 m3 m4
  have fr : ∀ k, (k = bWrb ∨ k = bo ∨ k = ba) → k ∉ sv.ownBlock.toList := fun k hk e => by
    rw [Option.mem_toList] at e
    have := HF.out k (by rw [hsv]; exact e)
    omega
  have KEEP : Hid (∀ W', Turned sv.ownBlock.toList w W' → W'.cell? ⟨bWrb, 0, none⟩ = some (.slice (some ⟨bW, 0, none⟩) items items) ∧ W'.cell? ⟨bo, 2, none⟩ = some (.int .i64 (x : Int)) ∧ W'.cell? ⟨ba, 0, none⟩ = some (.int .i64 (p : Int)) ∧ W'.cell? ⟨ba, 1, none⟩ = some (.int .i64 (t : Int)) ∧ W'.cell? ⟨bW, x, none⟩ = some sv ∧ W'.frozen? ⟨bW, x, none⟩ = false) := hidden fun W' hW => ⟨hW.cell m1 (fr _ (.inl rfl)), hW.cell m2 (fr _ (.inr (.inl rfl))), hW.cell m3 (fr _ (.inr (.inr rfl))), hW.cell m4 (fr _ (.inr (.inr rfl))), hW.cell c9 far9, hW.free lt9 f9 far9⟩
  clear m1 m2 m3 m4 fr hb hbo ha
  have HO := hidden ho9
  have F9 := hidden far9
  clear ho9 c9 f9 hsv far9
  refine wp_region_noPanic ?_
  refine wp_region_D 12 (fun _ => True) (fun w' => w'.cell? ⟨bWrb, 0, none⟩ = some (.slice (some ⟨bW, 0, none⟩) items items) ∧ w'.cell? ⟨bo, 2, none⟩ = some (.int .i64 (x : Int)) ∧ w'.cell? ⟨ba, 0, none⟩ = some (.int .i64 (p : Int)) ∧ w'.cell? ⟨ba, 1, none⟩ = some (.int .i64 (t : Int)) ∧ w'.cell? ⟨bW, x, none⟩ = some sv ∧ w'.frozen? ⟨bW, x, none⟩ = false) (by kernel_rfl) ⟨trivial, KEEP.out _ (Turned.drew (Turned.refl _ _))⟩ (fun hHeld => ?_)
  refine wpAnyD_take (v := ?_) 0 rfl (by kernel_rfl) (by kernel_rfl) (by kernel_rfl) rfl (by kernel_rfl) (by kernel_rfl) (fun _ _ _ h => h) (Or.inl ⟨by rfl, ?_⟩) hHeld ?_
  rotate_left
  · (intro w hSw; (try dsimp only at hSw); go_simp; try (with_reducible rfl))
  try simp only [Act.put, List.getElem_toArray, List.getElem_cons_succ, List.getElem_cons_zero, List.setIfInBounds_toArray, List.set_cons_zero, List.set_cons_succ]
  refine wpAnyD_take (v := ?_) 1 rfl (by kernel_rfl) (by kernel_rfl) (by kernel_rfl) rfl (by kernel_rfl) (by kernel_rfl) (fun _ _ _ h => h) (Or.inl ⟨by rfl, ?_⟩) hHeld ?_
  rotate_left
  · (intro w hSw; (try dsimp only at hSw); go_simp; try (with_reducible rfl))
  try simp only [Act.put, List.getElem_toArray, List.getElem_cons_succ, List.getElem_cons_zero, List.setIfInBounds_toArray, List.set_cons_zero, List.set_cons_succ]
  refine wpAnyD_take (v := ?_) 2 rfl (by kernel_rfl) (by kernel_rfl) (by kernel_rfl) rfl (by kernel_rfl) (by kernel_rfl) (fun _ _ _ h => h) (Or.inl ⟨by rfl, ?_⟩) hHeld ?_
  rotate_left
  · (intro w hSw; (try dsimp only at hSw); go_simp; try (with_reducible rfl))
  try simp only [Act.put, List.getElem_toArray, List.getElem_cons_succ, List.getElem_cons_zero, List.setIfInBounds_toArray, List.set_cons_zero, List.set_cons_succ]
  refine wpAnyD_take (v := ?_) 3 rfl (by kernel_rfl) (by kernel_rfl) (by kernel_rfl) rfl (by kernel_rfl) (by kernel_rfl) (fun _ _ _ h => h) (Or.inl ⟨by rfl, ?_⟩) hHeld ?_
  rotate_left
  · (intro w hSw; (try dsimp only at hSw); go_simp; try (with_reducible rfl))
  try simp only [Act.put, List.getElem_toArray, List.getElem_cons_succ, List.getElem_cons_zero, List.setIfInBounds_toArray, List.set_cons_zero, List.set_cons_succ]
  refine wpAnyD_take (v := ?_) 4 rfl (by kernel_rfl) (by kernel_rfl) (by kernel_rfl) rfl (by kernel_rfl) (by kernel_rfl) (fun _ _ _ h => h) (Or.inl ⟨by rfl, ?_⟩) hHeld ?_
  rotate_left
  · (intro w hSw; (try dsimp only at hSw); go_simp; try (with_reducible rfl))
  try simp only [Act.put, List.getElem_toArray, List.getElem_cons_succ, List.getElem_cons_zero, List.setIfInBounds_toArray, List.set_cons_zero, List.set_cons_succ]
  refine wpAnyD_take (v := ?_) 5 rfl (by kernel_rfl) (by kernel_rfl) (by kernel_rfl) rfl (by kernel_rfl) (by kernel_rfl) (fun _ _ _ h => h) (Or.inl ⟨by rfl, ?_⟩) hHeld ?_
  rotate_left
  · (intro w hSw; (try dsimp only at hSw); go_simp; try (with_reducible rfl))
  try simp only [Act.put, List.getElem_toArray, List.getElem_cons_succ, List.getElem_cons_zero, List.setIfInBounds_toArray, List.set_cons_zero, List.set_cons_succ]
  refine wpAnyD_take (v := ?_) 6 rfl (by kernel_rfl) (by kernel_rfl) (by kernel_rfl) rfl (by kernel_rfl) (by kernel_rfl) (fun _ _ _ h => h) (Or.inl ⟨by rfl, ?_⟩) hHeld ?_
  rotate_left
  · (intro w hSw; (try dsimp only at hSw); go_simp; try (with_reducible rfl))
  try simp only [Act.put, List.getElem_toArray, List.getElem_cons_succ, List.getElem_cons_zero, List.setIfInBounds_toArray, List.set_cons_zero, List.set_cons_succ]
  refine wpAnyD_take (v := ?_) 7 rfl (by kernel_rfl) (by kernel_rfl) (by kernel_rfl) rfl (by kernel_rfl) (by kernel_rfl) (fun _ _ _ h => h) (Or.inl ⟨by rfl, ?_⟩) hHeld ?_
  rotate_left
  · (intro w hSw; (try dsimp only at hSw); go_simp; try (with_reducible rfl))
  try simp only [Act.put, List.getElem_toArray, List.getElem_cons_succ, List.getElem_cons_zero, List.setIfInBounds_toArray, List.set_cons_zero, List.set_cons_succ]
  refine wpAnyD_take (v := ?_) 8 rfl (by kernel_rfl) (by kernel_rfl) (by kernel_rfl) rfl (by kernel_rfl) (by kernel_rfl) (fun _ _ _ h => h) (Or.inl ⟨by rfl, ?_⟩) hHeld ?_
  rotate_left
  · (intro w hSw; (try dsimp only at hSw); go_simp; try (with_reducible rfl))
  try simp only [Act.put, List.getElem_toArray, List.getElem_cons_succ, List.getElem_cons_zero, List.setIfInBounds_toArray, List.set_cons_zero, List.set_cons_succ]
  refine wpAnyD_one 9 (by kernel_rfl) rfl (fun K hK => ?_)
  go_simp
  refine hK.out _ _ trivial ?_ (fun h1 h0 => ?_)
  · exact fun _ => KEEP.out _ (Turned.wide (Turned.trans (Turned.drew (Turned.refl [] w)) (Turned.of_grown (World.grownBy_alloc w.drew _ none) [] (fun k hk => by cases hk)) (by simp)))
  clear hHeld
  have hHeld := And.intro h1 (h0 (by kernel_rfl))
  clear hK K h1 h0
  try simp only [Act.put, List.getElem_toArray, List.getElem_cons_succ, List.getElem_cons_zero, List.setIfInBounds_toArray, List.set_cons_zero, List.set_cons_succ]
  refine wpAnyD_one 10 (by kernel_rfl) rfl (fun K hK => ?_)
  refine step_append_lies _ (by rfl) (.tmp 116) (.tmp 118) 58 (by rfl) base 50 i0 (.agg #[.int .i64 0, .int .i64 0]) 2 16 Try.underlying58 hi hz0 hz1 hz2 rfl (by omega) sv (len (bW) (x)) (val (bW) (x)) (by rfl) (HO.out.drew.alloc _) ⟨w.heap.size, 0, none⟩ 1 1 [.int .i64 (p : Int), .int .i64 (t : Int)] (by rfl) (by rfl) (World.news_of_block (cs := [.int .i64 (p : Int), .int .i64 (t : Int)].toArray) (t := 50) (fr := (0, 0)) (heap_alloc_new w.drew _)) (by simp [Value.oneCell', encT]) (by omega) (by have := hl.out; unfold maxLen; omega) (by have := hl.out; omega) (by have := hR.out.top; simp; omega) (w.heap.size + 1) (by simp) ?_
  intro g cap w1 hown1 hgrow hat hlt2
  have LAW := hidden (push_law (b := bW) (o := x) (xs := [.int .i64 (p : Int), .int .i64 (t : Int)]) (cap := cap) hR.out hd.out (Turned.trans (Turned.drew (Turned.refl [] w)) (Turned.of_grown (World.grownBy_alloc w.drew _ none) [] (fun k hk => by cases hk)) (by simp)) (by rw [ht.out.1, ht.out.2]; exact hown1) (by rw [HSV.out]; exact hgrow) (by
    rw [HSV.out]
    rcases hat with h | h
    · exact .inl h
    · exact .inr (by omega)))
  refine hK.out _ _ trivial ?_ (fun h1 h0 => ?_)
  · exact fun _ => KEEP.out _ (by have h9 := LAW.out.2; rw [HSV.out] at h9; exact h9)
  clear hHeld hown1 hgrow hat hlt2
  have hHeld := And.intro h1 (h0 (by kernel_rfl))
  clear hK K h1 h0
  try simp only [Act.put, List.getElem_toArray, List.getElem_cons_succ, List.getElem_cons_zero, List.setIfInBounds_toArray, List.set_cons_zero, List.set_cons_succ]
  refine wpAnyD_one 11 (by kernel_rfl) rfl (fun K hK => ?_)
  go_simp
  refine hK.out _ _ trivial ?_ (fun h1 h0 => ?_)
  · exact fun _ => hHeld.2
  clear hHeld
  have hHeld := And.intro h1 (h0 (by kernel_rfl))
  clear hK K h1 h0
  try simp only [Act.put, List.getElem_toArray, List.getElem_cons_succ, List.getElem_cons_zero, List.setIfInBounds_toArray, List.set_cons_zero, List.set_cons_succ]
  refine wpAnyD_one 12 (by kernel_rfl) rfl (fun K hK => ?_)
  go_simp
  refine hK.out _ _ trivial ?_ (fun h1 h0 => ?_)
  · (intro h; exact absurd (h.symm.trans (by kernel_rfl)) Bool.false_ne_true)
  clear hK K h0 hHeld
  try simp only [Act.put, List.getElem_toArray, List.getElem_cons_succ, List.getElem_cons_zero, List.setIfInBounds_toArray, List.set_cons_zero, List.set_cons_succ]
  refine wpAnyD_done (by kernel_rfl) ?_ _
  refine NoPanic.normal ?_
  exact hQ.out _ _ _ _ _ _ _ _ _ _ _ _ _ LAW.out.1

end Go.Proofs.Qxb6612201a
