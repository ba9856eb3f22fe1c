/-
  WALK: shortestCycle's first statements: the memory of its first part.
-/
import Derived.Test.Qxb6612201aOpsW
import Derived.Carry
namespace Go.Proofs.Qxb6612201a
open Go.RowKit Go.Shelf
set_option linter.unusedVariables false
set_option linter.unusedSimpArgs false

theorem Try.info58 : (Try.prog.info? 58).map (fun i => (i.zero, i.size, i.bytes)) = some (some (.slice none 0 0), 1, 24) := by kernel_rfl
theorem Try.info54 : (Try.prog.info? 54).map (fun i => (i.zero, i.size, i.bytes)) = some (some (.agg #[.slice none 0 0, .slice none 0 0]), 2, 48) := by kernel_rfl

theorem heap_two0 (w : World) (x y : Obj) : ((w.alloc x).alloc y).heap[w.heap.size + 1]? = some y := by
  have h := heap_alloc_new (w.alloc x) y
  rw [show (w.alloc x).heap.size = w.heap.size + 1 by simp] at h
  exact h

theorem made_get (zs : Array Value) (x : Value) (c k : Nat) (hz : 0 < zs.size) (hall : ∀ j, j < zs.size → zs[j]! = x) (hk : k < c) : (madeCells zs c)[k]? = some x := by
  unfold madeCells
  rw [Array.getElem?_map, Array.getElem?_range, if_pos hk]
  simp only [Option.map_some]
  rw [hall _ (Nat.mod_lt _ hz)]

theorem make47 (c : Nat) (hc : (c : Int) ≤ 1000000) : ∃ Z0 : Array Value, (∀ k, k < c → Z0[k]? = some (.slice none 0 0)) ∧ ∀ W : World, (Instr.makeSlice 47 (.int .i64 (c : Int)) (.int .i64 (c : Int))).run Try.prog W = .ok (.slice (some ⟨W.heap.size, 0, none⟩) c c) (W.alloc (.cells Z0 58)) := by
  obtain ⟨i3, hi3, z30, z31, z32⟩ := info_parts Try.info58
  refine ⟨madeCells #[Value.slice none 0 0] c, fun k hk => made_get _ _ _ _ (by decide) (fun j hj => by
    have : j = 0 := by simp at hj; omega
    subst this
    rfl) hk, fun W => ?_⟩
  have h := run_make (P := Try.prog) W 47 58 i3 _ Try.underlying47 hi3 z30 .i64 .i64 (c : Int) (c : Int) (by omega) (by omega) (by rw [z32]; omega) (by omega)
  rw [z31, Nat.mul_one, show (Value.slice none 0 0).cells = #[.slice none 0 0] from rfl, Int.toNat_natCast] at h
  exact h

theorem make46 (c : Nat) (hc : (c : Int) ≤ 1000000) : ∃ Z0 : Array Value, (∀ k, k < c * 2 → Z0[k]? = some (.slice none 0 0)) ∧ ∀ W : World, (Instr.makeSlice 46 (.int .i64 (c : Int)) (.int .i64 (c : Int))).run Try.prog W = .ok (.slice (some ⟨W.heap.size, 0, none⟩) c c) (W.alloc (.cells Z0 54)) := by
  obtain ⟨i3, hi3, z30, z31, z32⟩ := info_parts Try.info54
  refine ⟨madeCells #[Value.slice none 0 0, .slice none 0 0] (c * 2), fun k hk => made_get _ _ _ _ (by decide) (fun j hj => by
    have : j = 0 ∨ j = 1 := by simp at hj; omega
    rcases this with rfl | rfl <;> rfl) hk, fun W => ?_⟩
  have h := run_make (P := Try.prog) W 46 54 i3 _ Try.underlying46 hi3 z30 .i64 .i64 (c : Int) (c : Int) (by omega) (by omega) (by rw [z32]; omega) (by omega)
  rw [z31, show (Value.agg #[.slice none 0 0, .slice none 0 0]).cells = #[.slice none 0 0, .slice none 0 0] from rfl, Int.toNat_natCast] at h
  exact h

/-- What the first statements lay. -/
structure Laid0 (n items z N bh bTree bx bA bWrb bW bRdb bR bM : Nat) (hv : Array Value) (W : World) : Prop where
  box : W.heap[bh]? = some (.cells hv 42 (0, 0))
  tree : W.heap[bTree]? = some (.cells #[.int .i64 z] 44 (0, 0))
  acc : W.heap[bx]? = some (.cells #[.slice (some ⟨bA, 0, none⟩) n n] 46 (0, 0))
  wr : W.heap[bWrb]? = some (.cells #[.slice (some ⟨bW, 0, none⟩) items items] 47 (0, 0))
  rd : W.heap[bRdb]? = some (.cells #[.slice (some ⟨bR, 0, none⟩) N N] 47 (0, 0))
  rA : ∃ Z, W.heap[bA]? = some (.cells Z 54 (0, 0)) ∧ ∀ k, k < n * 2 → Z[k]? = some (.slice none 0 0)
  rW : ∃ Z, W.heap[bW]? = some (.cells Z 58 (0, 0)) ∧ ∀ k, k < items → Z[k]? = some (.slice none 0 0)
  rR : ∃ Z, W.heap[bR]? = some (.cells Z 58 (0, 0)) ∧ ∀ k, k < N → Z[k]? = some (.slice none 0 0)
  map : W.ownsMap Try.prog 62 (plainElem (H := Unit) Try.prog 3) bM 0 (.map [])
  ord : bh < bTree ∧ bTree < bA ∧ bA < bx ∧ bx < bW ∧ bW < bWrb ∧ bWrb < bR ∧ bR < bRdb ∧ bRdb < bM ∧ bM < W.heap.size

set_option maxHeartbeats 25600000 in
set_option maxRecDepth 1000000 in
theorem open_any (n items s : Nat) (c0 c2 c3 c4 : Value) (ta : Option Addr) (tc : Nat) (w : World) (Q : Exit → Act → World → Prop) (hn : (n : Int) ≤ 1024) (hit : (items : Int) ≤ 65536)
    (u2 u3 u4 u5 u6 u7 u8 u9 u10 u11 u12 u13 u14 u15 u16 u17 u18 u19 u20 u21 u22 u23 u24 u25 u26 u27 u28 u29 u30 u31 u32 u33 u34 u35 u36 u37 u38 u39 u40 u41 u42 u43 u44 u45 u46 u47 u48 u49 u50 u51 u52 u53 u54 u55 u56 u57 u58 u59 u60 u61 u62 u63 u64 u65 u66 u67 u68 u69 u70 u71 u72 u73 u74 u75 u76 u77 u78 u79 u80 u81 u82 u83 u84 u85 u86 u87 u88 u89 u90 u91 u92 u93 u94 u95 u96 u97 u98 u99 u100 u101 u102 u103 u104 u105 u106 u107 u108 u109 u110 u111 u112 u113 u114 u115 u116 u117 u118 u119 u120 u121 u122 u123 u124 u125 u126 u127 u128 u129 u130 u131 u132 u133 u134 u135 u136 u137 u138 u139 u140 u141 u142 u143 u144 u145 u146 u147 u148 u149 u150 u151 u152 u153 u154 u155 u156 u157 u158 u159 u160 u161 u162 u163 u164 u165 u166 u167 u168 u169 u170 u171 u172 u173 u174 u175 u176 u177 u178 u179 u180 u181 u182 u183 u184 u185 u186 u187 u188 u189 u190 u191 u192 u193 u194 u195 u196 u197 u198 u199 u200 u201 u202 u203 u204 u205 u206 u207 u208 u209 u210 u211 u212 u213 u214 u215 u216 u217 u218 u219 u220 u221 u222 u223 u224 u225 u226 u227 u228 u229 u230 u231 u232 u233 u234 u235 u236 u237 u238 u239 u240 u241 u242 u243 u244 u245 u246 u247 u248 u249 u250 u251 u252 u253 u254 u255 u256 u257 u258 u259 u260 u261 u262 u263 u264 u265 u266 u267 u268 u269 u270 u271 u272 u273 u274 u275 u276 u277 u278 u279 u280 u281 u282 u283 u284 u285 u286 u287 u288 u289 u290 u291 u292 u293 u294 u295 u296 u297 u298 u299 u300 u301 u302 u303 u304 u305 u306 u307 u308 u309 u310 u311 u312 u313 u314 u315 u316 u317 u318 u319 u320 u321 u322 u323 u324 u325 u326 u327 u328 u329 u330 u331 u332 u333 u334 u335 u336 u337 u338 u339 u340 u341 u342 u343 u344 u345 u346 u347 u348 u349 u350 u351 u352 u353 u354 : Value)
    (hQ : Hid (∀ (W : World) (z N bh bTree bx bA bWrb bW bRdb bR bM : Nat) (x4 x41 x42 x43 x44 x45 x46 x47 x48 x49 x50 x51 x52 x53 x54 x55 : Value), PowFor items z → N = 2 * z → Turned [] w W → w.heap.size ≤ bh → Laid0 n items z N bh bTree bx bA bWrb bW bRdb bR bM #[c0, .slice ta n tc, c2, c3, c4, .int .i64 (items : Int)] W → Code.wp Try.prog (dropS 6 (b14 Try.f14)) Q { tmps := #[.agg #[c0, .slice ta n tc, c2, c3, c4, .int .i64 (items : Int)], .int .i64 (s : Int), .pointer (some ⟨bh, 0, none⟩), u3, x4, .pointer (some ⟨bTree, 0, none⟩), .pointer (some ⟨bx, 0, none⟩), .pointer (some ⟨bWrb, 0, none⟩), .pointer (some ⟨bRdb, 0, none⟩), .map (some bM), u10, u11, u12, u13, u14, u15, u16, u17, u18, u19, u20, u21, u22, u23, u24, u25, u26, u27, u28, u29, u30, u31, u32, u33, u34, u35, u36, u37, u38, u39, u40, x41, x42, x43, x44, x45, x46, x47, x48, x49, x50, x51, x52, x53, x54, x55, u56, u57, u58, u59, u60, u61, u62, u63, u64, u65, u66, u67, u68, u69, u70, u71, u72, u73, u74, u75, u76, u77, u78, u79, u80, u81, u82, u83, u84, u85, u86, u87, u88, u89, u90, u91, u92, u93, u94, u95, u96, u97, u98, u99, u100, u101, u102, u103, u104, u105, u106, u107, u108, u109, u110, u111, u112, u113, u114, u115, u116, u117, u118, u119, u120, u121, u122, u123, u124, u125, u126, u127, u128, u129, u130, u131, u132, u133, u134, u135, u136, u137, u138, u139, u140, u141, u142, u143, u144, u145, u146, u147, u148, u149, u150, u151, u152, u153, u154, u155, u156, u157, u158, u159, u160, u161, u162, u163, u164, u165, u166, u167, u168, u169, u170, u171, u172, u173, u174, u175, u176, u177, u178, u179, u180, u181, u182, u183, u184, u185, u186, u187, u188, u189, u190, u191, u192, u193, u194, u195, u196, u197, u198, u199, u200, u201, u202, u203, u204, u205, u206, u207, u208, u209, u210, u211, u212, u213, u214, u215, u216, u217, u218, u219, u220, u221, u222, u223, u224, u225, u226, u227, u228, u229, u230, u231, u232, u233, u234, u235, u236, u237, u238, u239, u240, u241, u242, u243, u244, u245, u246, u247, u248, u249, u250, u251, u252, u253, u254, u255, u256, u257, u258, u259, u260, u261, u262, u263, u264, u265, u266, u267, u268, u269, u270, u271, u272, u273, u274, u275, u276, u277, u278, u279, u280, u281, u282, u283, u284, u285, u286, u287, u288, u289, u290, u291, u292, u293, u294, u295, u296, u297, u298, u299, u300, u301, u302, u303, u304, u305, u306, u307, u308, u309, u310, u311, u312, u313, u314, u315, u316, u317, u318, u319, u320, u321, u322, u323, u324, u325, u326, u327, u328, u329, u330, u331, u332, u333, u334, u335, u336, u337, u338, u339, u340, u341, u342, u343, u344, u345, u346, u347, u348, u349, u350, u351, u352, u353, u354], defers := [] } W)) :
    Code.wp Try.prog (b14 Try.f14) Q { tmps := #[.agg #[c0, .slice ta n tc, c2, c3, c4, .int .i64 (items : Int)], .int .i64 (s : Int), u2, u3, u4, u5, u6, u7, u8, u9, u10, u11, u12, u13, u14, u15, u16, u17, u18, u19, u20, u21, u22, u23, u24, u25, u26, u27, u28, u29, u30, u31, u32, u33, u34, u35, u36, u37, u38, u39, u40, u41, u42, u43, u44, u45, u46, u47, u48, u49, u50, u51, u52, u53, u54, u55, u56, u57, u58, u59, u60, u61, u62, u63, u64, u65, u66, u67, u68, u69, u70, u71, u72, u73, u74, u75, u76, u77, u78, u79, u80, u81, u82, u83, u84, u85, u86, u87, u88, u89, u90, u91, u92, u93, u94, u95, u96, u97, u98, u99, u100, u101, u102, u103, u104, u105, u106, u107, u108, u109, u110, u111, u112, u113, u114, u115, u116, u117, u118, u119, u120, u121, u122, u123, u124, u125, u126, u127, u128, u129, u130, u131, u132, u133, u134, u135, u136, u137, u138, u139, u140, u141, u142, u143, u144, u145, u146, u147, u148, u149, u150, u151, u152, u153, u154, u155, u156, u157, u158, u159, u160, u161, u162, u163, u164, u165, u166, u167, u168, u169, u170, u171, u172, u173, u174, u175, u176, u177, u178, u179, u180, u181, u182, u183, u184, u185, u186, u187, u188, u189, u190, u191, u192, u193, u194, u195, u196, u197, u198, u199, u200, u201, u202, u203, u204, u205, u206, u207, u208, u209, u210, u211, u212, u213, u214, u215, u216, u217, u218, u219, u220, u221, u222, u223, u224, u225, u226, u227, u228, u229, u230, u231, u232, u233, u234, u235, u236, u237, u238, u239, u240, u241, u242, u243, u244, u245, u246, u247, u248, u249, u250, u251, u252, u253, u254, u255, u256, u257, u258, u259, u260, u261, u262, u263, u264, u265, u266, u267, u268, u269, u270, u271, u272, u273, u274, u275, u276, u277, u278, u279, u280, u281, u282, u283, u284, u285, u286, u287, u288, u289, u290, u291, u292, u293, u294, u295, u296, u297, u298, u299, u300, u301, u302, u303, u304, u305, u306, u307, u308, u309, u310, u311, u312, u313, u314, u315, u316, u317, u318, u319, u320, u321, u322, u323, u324, u325, u326, u327, u328, u329, u330, u331, u332, u333, u334, u335, u336, u337, u338, u339, u340, u341, u342, u343, u344, u345, u346, u347, u348, u349, u350, u351, u352, u353, u354], defers := [] } w := by
  refine (show Code.wp Try.prog (Code.seq (headS (dropS 0 (b14 Try.f14))) (dropS 1 (b14 Try.f14))) Q _ _ from wp_seq ?_)
  conv => arg 2; whnf
  go_wp2_with fail
  obtain ⟨W1, hW1⟩ : ∃ W1, w.alloc (.cells #[c0, .slice ta n tc, c2, c3, c4, .int .i64 (items : Int)] 42) = W1 := ⟨_, rfl⟩
  have t1 : Turned [] w W1 := by rw [← hW1]; exact Turned.of_grown (World.grownBy_alloc _ _ none) [] (fun k hk => by cases hk)
  have fbh : W1.heap[w.heap.size]? = some (.cells #[c0, .slice ta n tc, c2, c3, c4, .int .i64 (items : Int)] 42 (0, 0)) := by rw [← hW1]; exact heap_alloc_new w _
  have s1 : Hid (W1.heap.size = w.heap.size + 1) := hidden (by rw [← hW1]; simp)
  rw [hW1]
  clear hW1
  obtain ⟨bh, hbh⟩ : ∃ bh, w.heap.size = bh := ⟨_, rfl⟩
  rw [hbh] at fbh ⊢
  rw [hbh] at s1
  have HBH := hidden hbh
  clear hbh
  have e5 := cell_of_row W1 bh 5 _ _ _ fbh
  simp only [List.getElem?_toArray, List.getElem?_cons_zero, List.getElem?_cons_succ] at e5
  have FBH := hidden fbh
  have T1 := hidden t1
  clear fbh t1
  refine (show Code.wp Try.prog (Code.seq (headS (dropS 1 (b14 Try.f14))) (dropS 2 (b14 Try.f14))) Q _ _ from wp_seq ?_)
  conv => arg 2; whnf
  go_wp2_with fail
  refine (newItemTree_any items W1 (by omega)).mono ?_
  rintro e w2 ⟨⟨z, rfl, hz⟩, hb2⟩
  have HPZ := hidden hz
  have hz2 : (z : Int) ≤ 200000 := by
    obtain ⟨Hh, h1, h2, h3⟩ := hz
    rcases h3 with rfl | h3
    · rw [h1]; decide
    · omega
  have t2 : Turned [] W1 w2 := Turned.of_below hb2 (Nat.le_refl _)
  clear hz hb2 e5
  go_wp2_with fail
  obtain ⟨W3, hW3⟩ : ∃ W3, w2.alloc (.cells #[.int .i64 (z : Int)] 44) = W3 := ⟨_, rfl⟩
  have t3 : Turned [] W1 W3 := by rw [← hW3]; exact t2.trans (Turned.of_grown (World.grownBy_alloc _ _ none) [] (fun k hk => by cases hk)) (by simp)
  have ft : W3.heap[w2.heap.size]? = some (.cells #[.int .i64 (z : Int)] 44 (0, 0)) := by rw [← hW3]; exact heap_alloc_new w2 _
  have s3 : Hid (bh < w2.heap.size ∧ W3.heap.size = w2.heap.size + 1) := hidden ⟨by have := t2.size; have := s1.out; omega, by rw [← hW3]; simp⟩
  rw [hW3]
  clear hW3 t2
  obtain ⟨bT, hbT⟩ : ∃ bT, w2.heap.size = bT := ⟨_, rfl⟩
  rw [hbT] at ft ⊢
  rw [hbT] at s3
  clear hbT
  have fbh := t3.keep FBH.out (by simp)
  have e1 := cell_of_row W3 bh 1 _ _ _ fbh
  simp only [List.getElem?_toArray, List.getElem?_cons_zero, List.getElem?_cons_succ] at e1
  have T3 := hidden (T1.out.trans t3 (by simp))
  have FT := hidden ft
  have FBH := hidden fbh
  clear t3 ft fbh
  obtain ⟨Z1, hZ1, hmk1⟩ := make46 n (by omega)
  have HZ1 := hidden hZ1
  clear hZ1
  refine (show Code.wp Try.prog (Code.seq (headS (dropS 2 (b14 Try.f14))) (dropS 3 (b14 Try.f14))) Q _ _ from wp_seq ?_)
  conv => arg 2; whnf
  go_wp2_with fail
  obtain ⟨W5, hW5⟩ : ∃ W5, (W3.alloc (.cells Z1 54)).alloc (.cells #[.slice (some ⟨W3.heap.size, 0, none⟩) n n] 46) = W5 := ⟨_, rfl⟩
  have t5 : Turned [] W3 W5 := by rw [← hW5]; exact Turned.trans (Turned.of_grown (World.grownBy_alloc _ _ none) [] (fun k hk => by cases hk)) (Turned.of_grown (World.grownBy_alloc _ _ none) [] (fun k hk => by cases hk)) (by simp)
  have fA : W5.heap[W3.heap.size]? = some (.cells Z1 54 (0, 0)) := by rw [← hW5, heap_alloc_old _ _ (by simp)]; exact heap_alloc_new W3 _
  have fx : W5.heap[W3.heap.size + 1]? = some (.cells #[.slice (some ⟨W3.heap.size, 0, none⟩) n n] 46 (0, 0)) := by rw [← hW5]; exact heap_two0 W3 _ _
  have s5 : Hid (W5.heap.size = W3.heap.size + 2) := hidden (by rw [← hW5]; simp)
  rw [hW5]
  clear hW5 hmk1 e1
  have fbh := t5.keep FBH.out (by simp)
  have e1 := cell_of_row W5 bh 5 _ _ _ fbh
  simp only [List.getElem?_toArray, List.getElem?_cons_zero, List.getElem?_cons_succ] at e1
  have FBH := hidden fbh
  have FT := hidden (t5.keep FT.out (by simp))
  have FA := hidden fA
  have FX := hidden fx
  have T5 := hidden (T3.out.trans t5 (by simp))
  clear fbh fA fx t5
  obtain ⟨Z2, hZ2, hmk2⟩ := make47 items (by omega)
  have HZ2 := hidden hZ2
  clear hZ2
  refine (show Code.wp Try.prog (Code.seq (headS (dropS 3 (b14 Try.f14))) (dropS 4 (b14 Try.f14))) Q _ _ from wp_seq ?_)
  conv => arg 2; whnf
  go_wp2_with fail
  obtain ⟨W6, hW6⟩ : ∃ W6, (W5.alloc (.cells Z2 58)).alloc (.cells #[.slice (some ⟨W5.heap.size, 0, none⟩) items items] 47) = W6 := ⟨_, rfl⟩
  have t6 : Turned [] W5 W6 := by rw [← hW6]; exact Turned.trans (Turned.of_grown (World.grownBy_alloc _ _ none) [] (fun k hk => by cases hk)) (Turned.of_grown (World.grownBy_alloc _ _ none) [] (fun k hk => by cases hk)) (by simp)
  have fW : W6.heap[W5.heap.size]? = some (.cells Z2 58 (0, 0)) := by rw [← hW6, heap_alloc_old _ _ (by simp)]; exact heap_alloc_new W5 _
  have fWb : W6.heap[W5.heap.size + 1]? = some (.cells #[.slice (some ⟨W5.heap.size, 0, none⟩) items items] 47 (0, 0)) := by rw [← hW6]; exact heap_two0 W5 _ _
  have s6 : Hid (W6.heap.size = W5.heap.size + 2) := hidden (by rw [← hW6]; simp)
  rw [hW6]
  clear hW6 hmk2 e1
  have ft := t6.keep FT.out (by simp)
  have e1 := cell_of_row W6 bT 0 _ _ _ ft
  simp only [List.getElem?_toArray, List.getElem?_cons_zero, List.getElem?_cons_succ] at e1
  have FT := hidden ft
  have FBH := hidden (t6.keep FBH.out (by simp))
  have FA := hidden (t6.keep FA.out (by simp))
  have FX := hidden (t6.keep FX.out (by simp))
  have FW := hidden fW
  have FWB := hidden fWb
  have T6 := hidden (T5.out.trans t6 (by simp))
  clear ft fW fWb t6
  obtain ⟨N, hN⟩ : ∃ N, N = 2 * z := ⟨_, rfl⟩
  obtain ⟨Z3, hZ3, hmk3⟩ := make47 N (by omega)
  have HZ3 := hidden hZ3
  have HN := hidden hN
  have hNI : (N : Int) = 2 * (z : Int) := by omega
  rw [hNI] at hmk3
  clear hZ3 hN hNI
  refine (show Code.wp Try.prog (Code.seq (headS (dropS 4 (b14 Try.f14))) (dropS 5 (b14 Try.f14))) Q _ _ from wp_seq ?_)
  conv => arg 2; whnf
  go_wp2_with fail
  obtain ⟨W7, hW7⟩ : ∃ W7, (W6.alloc (.cells Z3 58)).alloc (.cells #[.slice (some ⟨W6.heap.size, 0, none⟩) N N] 47) = W7 := ⟨_, rfl⟩
  have t7 : Turned [] W6 W7 := by rw [← hW7]; exact Turned.trans (Turned.of_grown (World.grownBy_alloc _ _ none) [] (fun k hk => by cases hk)) (Turned.of_grown (World.grownBy_alloc _ _ none) [] (fun k hk => by cases hk)) (by simp)
  have fR : W7.heap[W6.heap.size]? = some (.cells Z3 58 (0, 0)) := by rw [← hW7, heap_alloc_old _ _ (by simp)]; exact heap_alloc_new W6 _
  have fRb : W7.heap[W6.heap.size + 1]? = some (.cells #[.slice (some ⟨W6.heap.size, 0, none⟩) N N] 47 (0, 0)) := by rw [← hW7]; exact heap_two0 W6 _ _
  have s7 : Hid (W7.heap.size = W6.heap.size + 2) := hidden (by rw [← hW7]; simp)
  rw [hW7]
  clear hW7 hmk3 e1
  have T7 := hidden t7
  have FR := hidden fR
  have FRB := hidden fRb
  clear t7 fR fRb
  refine (show Code.wp Try.prog (Code.seq (headS (dropS 5 (b14 Try.f14))) (dropS 6 (b14 Try.f14))) Q _ _ from wp_seq ?_)
  conv => arg 2; whnf
  have hmm := fun W : World => run_makeMap (P := Try.prog) 48 W
  go_wp2_with fail
  have t8 : Turned [] W7 (W7.alloc (.map #[] 0)) := Turned.of_grown (World.grownBy_alloc _ _ none) [] (fun k hk => by cases hk)
  have t78 := T7.out.trans t8 (by simp)
  refine hQ.out _ z N bh bT (W3.heap.size + 1) W3.heap.size (W5.heap.size + 1) W5.heap.size (W6.heap.size + 1) W6.heap.size W7.heap.size _ _ _ _ _ _ _ _ _ _ _ _ _ _ _ _ HPZ.out HN.out (T6.out.trans t78 (by simp)) (by have := HBH.out; omega) ⟨t78.keep FBH.out (by simp), t78.keep FT.out (by simp), t78.keep FX.out (by simp), t78.keep FWB.out (by simp), t8.keep FRB.out (by simp), ⟨Z1, t78.keep FA.out (by simp), HZ1.out⟩, ⟨Z2, t78.keep FW.out (by simp), HZ2.out⟩, ⟨Z3, t8.keep FR.out (by simp), HZ3.out⟩, World.ownsMap_made _ _ _ _, ?_⟩
  have q3 := s3.out
  have q5 := s5.out
  have q6 := s6.out
  have q7 := s7.out
  simp
  omega

end Go.Proofs.Qxb6612201a
