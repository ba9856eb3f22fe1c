/-
  WALK: the head of the law 4: the tests on lengths, and the copies.
-/
import Derived.Test.Qxb6612201aCp4
import Derived.Test.Qxb6612201aZb
namespace Go.Proofs.Qxb6612201a
open Go.RowKit Go.Shelf
set_option linter.unusedVariables false
set_option linter.unusedSimpArgs false

set_option maxHeartbeats 25600000 in
set_option maxRecDepth 1000000 in
theorem head4_any (l0 c0 l1 c1 l2 c2 l3 c3 l4 c4 l5 c5 l6 c6 l7 c7 : Nat) (a0 a1 a2 a3 a4 a5 a6 a7 : Option Addr) (z0 z1 z2 z3 z4 z5 z6 z7 : List Int) (items s : Int) (w : World)
    (hS0 : Hid (Src .i64 w a0 l0 c0 z0)) (hS1 : Hid (Src .i64 w a1 l1 c1 z1)) (hS2 : Hid (Src .i64 w a2 l2 c2 z2)) (hS3 : Hid (Src .i64 w a3 l3 c3 z3)) (hS4 : Hid (Src .u64 w a4 l4 c4 z4)) (hS5 : Hid (Src .i8 w a5 l5 c5 z5)) (hS6 : Hid (Src .i64 w a6 l6 c6 z6)) (hS7 : Hid (Src .i64 w a7 l7 c7 z7))
    (u10 u11 u12 u13 u14 u15 u16 u17 u18 u19 u20 u21 u22 u23 u24 u25 u26 u27 u28 u29 u30 u31 u32 u33 u34 u35 u36 u37 u38 u39 u40 u41 u42 u43 u44 u45 u46 u47 u48 u49 u50 u51 u52 u53 u54 u55 u56 u57 u58 u59 u60 u61 u62 u63 u64 u65 u66 u67 u68 u69 u70 u71 u72 u73 u74 u75 u76 u77 u78 u79 u80 u81 u82 u83 u84 u85 u86 u87 u88 u89 u90 u91 u92 u93 u94 u95 u96 u97 u98 u99 u100 u101 u102 u103 u104 u105 u106 u107 u108 u109 u110 u111 u112 u113 u114 u115 u116 u117 u118 u119 u120 u121 u122 u123 u124 u125 u126 u127 u128 u129 u130 u131 u132 u133 u134 u135 u136 u137 u138 u139 u140 u141 u142 u143 u144 u145 u146 u147 u148 u149 u150 u151 u152 u153 u154 u155 u156 u157 u158 u159 u160 u161 u162 u163 u164 u165 u166 u167 u168 u169 u170 u171 u172 u173 u174 u175 u176 u177 u178 u179 u180 u181 u182 u183 u184 u185 u186 u187 u188 u189 u190 u191 u192 u193 u194 u195 u196 u197 u198 u199 u200 u201 u202 u203 u204 u205 u206 u207 u208 u209 u210 u211 u212 u213 u214 u215 u216 u217 u218 u219 u220 u221 u222 u223 u224 u225 u226 u227 u228 u229 u230 u231 u232 u233 u234 u235 u236 u237 u238 u239 u240 u241 u242 u243 u244 u245 u246 u247 u248 u249 u250 u251 u252 u253 u254 u255 u256 u257 u258 u259 u260 u261 u262 u263 u264 u265 u266 u267 u268 u269 u270 u271 u272 u273 u274 u275 u276 u277 u278 u279 u280 u281 u282 u283 u284 u285 u286 u287 u288 u289 u290 u291 u292 u293 u294 u295 u296 u297 u298 u299 u300 u301 u302 u303 u304 u305 u306 u307 u308 u309 u310 u311 u312 u313 u314 u315 u316 u317 u318 u319 u320 u321 u322 u323 u324 u325 u326 u327 u328 u329 u330 u331 u332 u333 u334 : Value)
    (hQ : Hid (∀ (w' : World) (v0 v1 v2 v3 v4 v5 v6 v7 x20 x21 x22 x23 x24 x25 x26 x27 x28 x39 x40 x41 x42 x43 x44 x45 x46 x47 x48 x49 x50 x51 x52 x53 x54 x55 x56 x57 x58 x59 x60 x61 x62 x63 x64 x65 x66 x67 x68 x69 x70 x71 x72 x73 x74 x75 x76 x77 x78 x79 x80 x81 x82 x83 x84 x85 x86 x87 x88 x89 x90 x91 x92 x93 x94 x95 x96 x97 x98 x99 x100 x101 x102 x103 x104 x105 x106 x107 x108 x109 x110 x111 x112 x113 x114 x115 x116 x117 x118 x119 x120 x121 x122 x123 x124 x125 x126 x127 x128 x129 x130 x131 x132 x133 x134 x135 x136 x137 x138 x139 x140 x141 x142 x143 x144 x145 x146 x147 x148 x149 x150 x151 x152 x153 x154 x155 x156 x157 x158 x159 x160 x161 x162 x163 x164 x165 x166 x167 x168 x169 x170 x171 x172 x173 x174 x175 x176 x177 x178 x179 x180 x181 x182 x183 x184 x185 x186 x187 x188 x189 : Value), Turned [] w w' → Copied .i64 l0 z0 v0 w' → Copied .i64 l1 z1 v1 w' → Copied .i64 l2 z2 v2 w' → Copied .i64 l3 z3 v3 w' → Copied .u64 l4 z4 v4 w' → Copied .i8 l5 z5 v5 w' → Copied .i64 l6 z6 v6 w' → Copied .i64 l7 z7 v7 w' → (l0 : Int) ≤ 1024 → (l1 : Int) ≤ 1024 → (l2 : Int) ≤ 1024 → (l3 : Int) ≤ 1024 → (l4 : Int) ≤ 1024 → (l5 : Int) ≤ 1024 → 0 ≤ items → items ≤ 65536 →
      Code.wp Try.prog (dropS 14 (b4 Try.f4)) (bodyPost Try.prog Try.f4 fun e w' => e = .returned (.bool true) ∧ Below w.heap.size w w') { tmps := #[v0, v1, v2, v3, v4, v5, v6, v7, .int .i64 items, .int .i64 s, u10, u11, u12, u13, u14, u15, u16, u17, u18, u19, x20, x21, x22, x23, x24, x25, x26, x27, x28, u29, u30, u31, u32, u33, u34, u35, u36, u37, u38, x39, x40, x41, x42, x43, x44, x45, x46, x47, x48, x49, x50, x51, x52, x53, x54, x55, x56, x57, x58, x59, x60, x61, x62, x63, x64, x65, x66, x67, x68, x69, x70, x71, x72, x73, x74, x75, x76, x77, x78, x79, x80, x81, x82, x83, x84, x85, x86, x87, x88, x89, x90, x91, x92, x93, x94, x95, x96, x97, x98, x99, x100, x101, x102, x103, x104, x105, x106, x107, x108, x109, x110, x111, x112, x113, x114, x115, x116, x117, x118, x119, x120, x121, x122, x123, x124, x125, x126, x127, x128, x129, x130, x131, x132, x133, x134, x135, x136, x137, x138, x139, x140, x141, x142, x143, x144, x145, x146, x147, x148, x149, x150, x151, x152, x153, x154, x155, x156, x157, x158, x159, x160, x161, x162, x163, x164, x165, x166, x167, x168, x169, x170, x171, x172, x173, x174, x175, x176, x177, x178, x179, x180, x181, x182, x183, x184, x185, x186, x187, x188, x189, u190, u191, u192, u193, u194, u195, u196, u197, u198, u199, u200, u201, u202, u203, u204, u205, u206, u207, u208, u209, u210, u211, u212, u213, u214, u215, u216, u217, u218, u219, u220, u221, u222, u223, u224, u225, u226, u227, u228, u229, u230, u231, u232, u233, u234, u235, u236, u237, u238, u239, u240, u241, u242, u243, u244, u245, u246, u247, u248, u249, u250, u251, u252, u253, u254, u255, u256, u257, u258, u259, u260, u261, u262, u263, u264, u265, u266, u267, u268, u269, u270, u271, u272, u273, u274, u275, u276, u277, u278, u279, u280, u281, u282, u283, u284, u285, u286, u287, u288, u289, u290, u291, u292, u293, u294, u295, u296, u297, u298, u299, u300, u301, u302, u303, u304, u305, u306, u307, u308, u309, u310, u311, u312, u313, u314, u315, u316, u317, u318, u319, u320, u321, u322, u323, u324, u325, u326, u327, u328, u329, u330, u331, u332, u333, u334], defers := [] } w')) :
    Code.wp Try.prog (b4 Try.f4) (bodyPost Try.prog Try.f4 fun e w' => e = .returned (.bool true) ∧ Below w.heap.size w w') { tmps := #[.slice a0 l0 c0, .slice a1 l1 c1, .slice a2 l2 c2, .slice a3 l3 c3, .slice a4 l4 c4, .slice a5 l5 c5, .slice a6 l6 c6, .slice a7 l7 c7, .int .i64 items, .int .i64 s, u10, u11, u12, u13, u14, u15, u16, u17, u18, u19, u20, u21, u22, u23, u24, u25, u26, u27, u28, u29, u30, u31, u32, u33, u34, u35, u36, u37, u38, u39, u40, u41, u42, u43, u44, u45, u46, u47, u48, u49, u50, u51, u52, u53, u54, u55, u56, u57, u58, u59, u60, u61, u62, u63, u64, u65, u66, u67, u68, u69, u70, u71, u72, u73, u74, u75, u76, u77, u78, u79, u80, u81, u82, u83, u84, u85, u86, u87, u88, u89, u90, u91, u92, u93, u94, u95, u96, u97, u98, u99, u100, u101, u102, u103, u104, u105, u106, u107, u108, u109, u110, u111, u112, u113, u114, u115, u116, u117, u118, u119, u120, u121, u122, u123, u124, u125, u126, u127, u128, u129, u130, u131, u132, u133, u134, u135, u136, u137, u138, u139, u140, u141, u142, u143, u144, u145, u146, u147, u148, u149, u150, u151, u152, u153, u154, u155, u156, u157, u158, u159, u160, u161, u162, u163, u164, u165, u166, u167, u168, u169, u170, u171, u172, u173, u174, u175, u176, u177, u178, u179, u180, u181, u182, u183, u184, u185, u186, u187, u188, u189, u190, u191, u192, u193, u194, u195, u196, u197, u198, u199, u200, u201, u202, u203, u204, u205, u206, u207, u208, u209, u210, u211, u212, u213, u214, u215, u216, u217, u218, u219, u220, u221, u222, u223, u224, u225, u226, u227, u228, u229, u230, u231, u232, u233, u234, u235, u236, u237, u238, u239, u240, u241, u242, u243, u244, u245, u246, u247, u248, u249, u250, u251, u252, u253, u254, u255, u256, u257, u258, u259, u260, u261, u262, u263, u264, u265, u266, u267, u268, u269, u270, u271, u272, u273, u274, u275, u276, u277, u278, u279, u280, u281, u282, u283, u284, u285, u286, u287, u288, u289, u290, u291, u292, u293, u294, u295, u296, u297, u298, u299, u300, u301, u302, u303, u304, u305, u306, u307, u308, u309, u310, u311, u312, u313, u314, u315, u316, u317, u318, u319, u320, u321, u322, u323, u324, u325, u326, u327, u328, u329, u330, u331, u332, u333, u334], defers := [] } w := by
  refine (show Code.wp Try.prog (Code.seq (headS (dropS 0 (b4 Try.f4))) (dropS 1 (b4 Try.f4))) _ _ w from wp_seq ?_)
  conv => arg 2; whnf
  go_wp2_with fail
  refine (show Code.wp Try.prog (Code.seq (headS (dropS 1 (b4 Try.f4))) (dropS 2 (b4 Try.f4))) _ _ w from wp_seq ?_)
  conv => arg 2; whnf
  go_wp2_with fail
  refine (zb12_any a0 a1 a2 a3 a4 a5 a6 a7 l0 l1 l2 l3 l4 l5 l6 l7 c0 c1 c2 c3 c4 c5 c6 c7 items s w).mono ?_
  rintro e w' ⟨⟨b, rfl⟩, rfl⟩
  cases b
  case false =>
    go_wp2_with fail
    go_returns
    exact ⟨rfl, Below.refl _ _⟩
  go_wp2_with fail
  refine (show Code.wp Try.prog (Code.seq (headS (dropS 2 (b4 Try.f4))) (dropS 3 (b4 Try.f4))) _ _ w from wp_seq ?_)
  conv => arg 2; whnf
  by_cases d0 : (1024 : Int) < (l0 : Int)
  case pos =>
    go_wp2_with fail
    go_returns
    exact ⟨rfl, Below.refl _ _⟩
  have d0' : (l0 : Int) ≤ (1024 : Int) := by omega
  clear d0
  by_cases d1 : (1024 : Int) < (l1 : Int)
  case pos =>
    go_wp2_with fail
    go_returns
    exact ⟨rfl, Below.refl _ _⟩
  have d1' : (l1 : Int) ≤ (1024 : Int) := by omega
  clear d1
  by_cases d2 : (1024 : Int) < (l2 : Int)
  case pos =>
    go_wp2_with fail
    go_returns
    exact ⟨rfl, Below.refl _ _⟩
  have d2' : (l2 : Int) ≤ (1024 : Int) := by omega
  clear d2
  by_cases d3 : (1024 : Int) < (l3 : Int)
  case pos =>
    go_wp2_with fail
    go_returns
    exact ⟨rfl, Below.refl _ _⟩
  have d3' : (l3 : Int) ≤ (1024 : Int) := by omega
  clear d3
  go_wp2_with fail
  refine (show Code.wp Try.prog (Code.seq (headS (dropS 3 (b4 Try.f4))) (dropS 4 (b4 Try.f4))) _ _ w from wp_seq ?_)
  conv => arg 2; whnf
  by_cases d4 : (1024 : Int) < (l4 : Int)
  case pos =>
    go_wp2_with fail
    go_returns
    exact ⟨rfl, Below.refl _ _⟩
  have d4' : (l4 : Int) ≤ (1024 : Int) := by omega
  clear d4
  by_cases d5 : (1024 : Int) < (l5 : Int)
  case pos =>
    go_wp2_with fail
    go_returns
    exact ⟨rfl, Below.refl _ _⟩
  have d5' : (l5 : Int) ≤ (1024 : Int) := by omega
  clear d5
  by_cases d6 : (131072 : Int) < (l6 : Int)
  case pos =>
    go_wp2_with fail
    go_returns
    exact ⟨rfl, Below.refl _ _⟩
  have d6' : (l6 : Int) ≤ (131072 : Int) := by omega
  clear d6
  by_cases d7 : (131072 : Int) < (l7 : Int)
  case pos =>
    go_wp2_with fail
    go_returns
    exact ⟨rfl, Below.refl _ _⟩
  have d7' : (l7 : Int) ≤ (131072 : Int) := by omega
  clear d7
  go_wp2_with fail
  refine (show Code.wp Try.prog (Code.seq (headS (dropS 4 (b4 Try.f4))) (dropS 5 (b4 Try.f4))) _ _ w from wp_seq ?_)
  conv => arg 2; whnf
  by_cases d8 : (1048576 : Int) < 8 * ((l0 : Int) + (l1 : Int) + (l2 : Int) + (l3 : Int) + (l4 : Int) + (l6 : Int) + (l7 : Int)) + (l5 : Int)
  case pos =>
    go_wp2_with fail
    go_returns
    exact ⟨rfl, Below.refl _ _⟩
  have d8' : 8 * ((l0 : Int) + (l1 : Int) + (l2 : Int) + (l3 : Int) + (l4 : Int) + (l6 : Int) + (l7 : Int)) + (l5 : Int) ≤ (1048576 : Int) := by omega
  clear d8
  go_wp2_with fail
  refine (show Code.wp Try.prog (Code.seq (headS (dropS 5 (b4 Try.f4))) (dropS 6 (b4 Try.f4))) _ _ w from wp_seq ?_)
  conv => arg 2; whnf
  by_cases d9 : items < (0 : Int)
  case pos =>
    go_wp2_with fail
    go_returns
    exact ⟨rfl, Below.refl _ _⟩
  have d9' : (0 : Int) ≤ items := by omega
  clear d9
  by_cases d10 : (65536 : Int) < items
  case pos =>
    go_wp2_with fail
    go_returns
    exact ⟨rfl, Below.refl _ _⟩
  have d10' : items ≤ (65536 : Int) := by omega
  clear d10
  go_wp2_with fail
  refine (show Code.wp Try.prog (Code.seq (headS (dropS 6 (b4 Try.f4))) (dropS 7 (b4 Try.f4))) _ _ w from wp_seq ?_)
  refine cp4_0 l0 c0 a0 z0 w _ hS0 (by omega) _ _ _ _ _ _ _ _ _ _ _ _ _ _ _ _ _ _ _ _ _ _ _ _ _ _ _ _ _ _ _ _ _ _ _ _ _ _ _ _ _ _ _ _ _ _ _ _ _ _ _ _ _ _ _ _ _ _ _ _ _ _ _ _ _ _ _ _ _ _ _ _ _ _ _ _ _ _ _ _ _ _ _ _ _ _ _ _ _ _ _ _ _ _ _ _ _ _ _ _ _ _ _ _ _ _ _ _ _ _ _ _ _ _ _ _ _ _ _ _ _ _ _ _ _ _ _ _ _ _ _ _ _ _ _ _ _ _ _ _ _ _ _ _ _ _ _ _ _ _ _ _ _ _ _ _ _ _ _ _ _ _ _ _ _ _ _ _ _ _ _ _ _ _ _ _ _ _ _ _ _ _ _ _ _ _ _ _ _ _ _ _ _ _ _ _ _ _ _ _ _ _ _ _ _ _ _ _ _ _ _ _ _ _ _ _ _ _ _ _ _ _ _ _ _ _ _ _ _ _ _ _ _ _ _ _ _ _ _ _ _ _ _ _ _ _ _ _ _ _ _ _ _ _ _ _ _ _ _ _ _ _ _ _ _ _ _ _ _ _ _ _ _ _ _ _ _ _ _ _ _ _ _ _ _ _ _ _ _ _ _ _ _ _ _ _ _ _ _ _ _ _ _ _ _ _ _ _ _ _ _ _ _ _ _ _ _ _ _ _ _ _ _ _ _ _ _ _ _ _ _ _ _ _ (hidden ?_)
  intro w1 y0 y21 y118 y119 y120 y121 y122 y123 y124 y125 y126 C0 t0
  have T1 : Hid (Turned [] w w1) := hidden t0
  clear t0
  refine (show Code.wp Try.prog (Code.seq (headS (dropS 7 (b4 Try.f4))) (dropS 8 (b4 Try.f4))) _ _ w1 from wp_seq ?_)
  refine cp4_1 l1 c1 a1 z1 w1 _ (hidden (hS1.out.turned T1.out)) (by omega) _ _ _ _ _ _ _ _ _ _ _ _ _ _ _ _ _ _ _ _ _ _ _ _ _ _ _ _ _ _ _ _ _ _ _ _ _ _ _ _ _ _ _ _ _ _ _ _ _ _ _ _ _ _ _ _ _ _ _ _ _ _ _ _ _ _ _ _ _ _ _ _ _ _ _ _ _ _ _ _ _ _ _ _ _ _ _ _ _ _ _ _ _ _ _ _ _ _ _ _ _ _ _ _ _ _ _ _ _ _ _ _ _ _ _ _ _ _ _ _ _ _ _ _ _ _ _ _ _ _ _ _ _ _ _ _ _ _ _ _ _ _ _ _ _ _ _ _ _ _ _ _ _ _ _ _ _ _ _ _ _ _ _ _ _ _ _ _ _ _ _ _ _ _ _ _ _ _ _ _ _ _ _ _ _ _ _ _ _ _ _ _ _ _ _ _ _ _ _ _ _ _ _ _ _ _ _ _ _ _ _ _ _ _ _ _ _ _ _ _ _ _ _ _ _ _ _ _ _ _ _ _ _ _ _ _ _ _ _ _ _ _ _ _ _ _ _ _ _ _ _ _ _ _ _ _ _ _ _ _ _ _ _ _ _ _ _ _ _ _ _ _ _ _ _ _ _ _ _ _ _ _ _ _ _ _ _ _ _ _ _ _ _ _ _ _ _ _ _ _ _ _ _ _ _ _ _ _ _ _ _ _ _ _ _ _ _ _ _ _ _ _ _ _ _ _ _ _ _ _ _ _ _ _ (hidden ?_)
  intro w2 y1 y22 y127 y128 y129 y130 y131 y132 y133 y134 y135 C1 t1
  have T2 : Hid (Turned [] w w2) := hidden (T1.out.trans t1 (by simp))
  replace C0 := C0.turned t1
  clear t1
  refine (show Code.wp Try.prog (Code.seq (headS (dropS 8 (b4 Try.f4))) (dropS 9 (b4 Try.f4))) _ _ w2 from wp_seq ?_)
  refine cp4_2 l2 c2 a2 z2 w2 _ (hidden (hS2.out.turned T2.out)) (by omega) _ _ _ _ _ _ _ _ _ _ _ _ _ _ _ _ _ _ _ _ _ _ _ _ _ _ _ _ _ _ _ _ _ _ _ _ _ _ _ _ _ _ _ _ _ _ _ _ _ _ _ _ _ _ _ _ _ _ _ _ _ _ _ _ _ _ _ _ _ _ _ _ _ _ _ _ _ _ _ _ _ _ _ _ _ _ _ _ _ _ _ _ _ _ _ _ _ _ _ _ _ _ _ _ _ _ _ _ _ _ _ _ _ _ _ _ _ _ _ _ _ _ _ _ _ _ _ _ _ _ _ _ _ _ _ _ _ _ _ _ _ _ _ _ _ _ _ _ _ _ _ _ _ _ _ _ _ _ _ _ _ _ _ _ _ _ _ _ _ _ _ _ _ _ _ _ _ _ _ _ _ _ _ _ _ _ _ _ _ _ _ _ _ _ _ _ _ _ _ _ _ _ _ _ _ _ _ _ _ _ _ _ _ _ _ _ _ _ _ _ _ _ _ _ _ _ _ _ _ _ _ _ _ _ _ _ _ _ _ _ _ _ _ _ _ _ _ _ _ _ _ _ _ _ _ _ _ _ _ _ _ _ _ _ _ _ _ _ _ _ _ _ _ _ _ _ _ _ _ _ _ _ _ _ _ _ _ _ _ _ _ _ _ _ _ _ _ _ _ _ _ _ _ _ _ _ _ _ _ _ _ _ _ _ _ _ _ _ _ _ _ _ _ _ _ _ _ _ _ _ _ _ _ _ (hidden ?_)
  intro w3 y2 y23 y136 y137 y138 y139 y140 y141 y142 y143 y144 C2 t2
  have T3 : Hid (Turned [] w w3) := hidden (T2.out.trans t2 (by simp))
  replace C0 := C0.turned t2
  replace C1 := C1.turned t2
  clear t2
  refine (show Code.wp Try.prog (Code.seq (headS (dropS 9 (b4 Try.f4))) (dropS 10 (b4 Try.f4))) _ _ w3 from wp_seq ?_)
  refine cp4_3 l3 c3 a3 z3 w3 _ (hidden (hS3.out.turned T3.out)) (by omega) _ _ _ _ _ _ _ _ _ _ _ _ _ _ _ _ _ _ _ _ _ _ _ _ _ _ _ _ _ _ _ _ _ _ _ _ _ _ _ _ _ _ _ _ _ _ _ _ _ _ _ _ _ _ _ _ _ _ _ _ _ _ _ _ _ _ _ _ _ _ _ _ _ _ _ _ _ _ _ _ _ _ _ _ _ _ _ _ _ _ _ _ _ _ _ _ _ _ _ _ _ _ _ _ _ _ _ _ _ _ _ _ _ _ _ _ _ _ _ _ _ _ _ _ _ _ _ _ _ _ _ _ _ _ _ _ _ _ _ _ _ _ _ _ _ _ _ _ _ _ _ _ _ _ _ _ _ _ _ _ _ _ _ _ _ _ _ _ _ _ _ _ _ _ _ _ _ _ _ _ _ _ _ _ _ _ _ _ _ _ _ _ _ _ _ _ _ _ _ _ _ _ _ _ _ _ _ _ _ _ _ _ _ _ _ _ _ _ _ _ _ _ _ _ _ _ _ _ _ _ _ _ _ _ _ _ _ _ _ _ _ _ _ _ _ _ _ _ _ _ _ _ _ _ _ _ _ _ _ _ _ _ _ _ _ _ _ _ _ _ _ _ _ _ _ _ _ _ _ _ _ _ _ _ _ _ _ _ _ _ _ _ _ _ _ _ _ _ _ _ _ _ _ _ _ _ _ _ _ _ _ _ _ _ _ _ _ _ _ _ _ _ _ _ _ _ _ _ _ _ _ _ _ _ (hidden ?_)
  intro w4 y3 y24 y145 y146 y147 y148 y149 y150 y151 y152 y153 C3 t3
  have T4 : Hid (Turned [] w w4) := hidden (T3.out.trans t3 (by simp))
  replace C0 := C0.turned t3
  replace C1 := C1.turned t3
  replace C2 := C2.turned t3
  clear t3
  refine (show Code.wp Try.prog (Code.seq (headS (dropS 10 (b4 Try.f4))) (dropS 11 (b4 Try.f4))) _ _ w4 from wp_seq ?_)
  refine cp4_4 l4 c4 a4 z4 w4 _ (hidden (hS4.out.turned T4.out)) (by omega) _ _ _ _ _ _ _ _ _ _ _ _ _ _ _ _ _ _ _ _ _ _ _ _ _ _ _ _ _ _ _ _ _ _ _ _ _ _ _ _ _ _ _ _ _ _ _ _ _ _ _ _ _ _ _ _ _ _ _ _ _ _ _ _ _ _ _ _ _ _ _ _ _ _ _ _ _ _ _ _ _ _ _ _ _ _ _ _ _ _ _ _ _ _ _ _ _ _ _ _ _ _ _ _ _ _ _ _ _ _ _ _ _ _ _ _ _ _ _ _ _ _ _ _ _ _ _ _ _ _ _ _ _ _ _ _ _ _ _ _ _ _ _ _ _ _ _ _ _ _ _ _ _ _ _ _ _ _ _ _ _ _ _ _ _ _ _ _ _ _ _ _ _ _ _ _ _ _ _ _ _ _ _ _ _ _ _ _ _ _ _ _ _ _ _ _ _ _ _ _ _ _ _ _ _ _ _ _ _ _ _ _ _ _ _ _ _ _ _ _ _ _ _ _ _ _ _ _ _ _ _ _ _ _ _ _ _ _ _ _ _ _ _ _ _ _ _ _ _ _ _ _ _ _ _ _ _ _ _ _ _ _ _ _ _ _ _ _ _ _ _ _ _ _ _ _ _ _ _ _ _ _ _ _ _ _ _ _ _ _ _ _ _ _ _ _ _ _ _ _ _ _ _ _ _ _ _ _ _ _ _ _ _ _ _ _ _ _ _ _ _ _ _ _ _ _ _ _ _ _ _ _ _ _ (hidden ?_)
  intro w5 y4 y25 y154 y155 y156 y157 y158 y159 y160 y161 y162 C4 t4
  have T5 : Hid (Turned [] w w5) := hidden (T4.out.trans t4 (by simp))
  replace C0 := C0.turned t4
  replace C1 := C1.turned t4
  replace C2 := C2.turned t4
  replace C3 := C3.turned t4
  clear t4
  refine (show Code.wp Try.prog (Code.seq (headS (dropS 11 (b4 Try.f4))) (dropS 12 (b4 Try.f4))) _ _ w5 from wp_seq ?_)
  refine cp4_5 l5 c5 a5 z5 w5 _ (hidden (hS5.out.turned T5.out)) (by omega) _ _ _ _ _ _ _ _ _ _ _ _ _ _ _ _ _ _ _ _ _ _ _ _ _ _ _ _ _ _ _ _ _ _ _ _ _ _ _ _ _ _ _ _ _ _ _ _ _ _ _ _ _ _ _ _ _ _ _ _ _ _ _ _ _ _ _ _ _ _ _ _ _ _ _ _ _ _ _ _ _ _ _ _ _ _ _ _ _ _ _ _ _ _ _ _ _ _ _ _ _ _ _ _ _ _ _ _ _ _ _ _ _ _ _ _ _ _ _ _ _ _ _ _ _ _ _ _ _ _ _ _ _ _ _ _ _ _ _ _ _ _ _ _ _ _ _ _ _ _ _ _ _ _ _ _ _ _ _ _ _ _ _ _ _ _ _ _ _ _ _ _ _ _ _ _ _ _ _ _ _ _ _ _ _ _ _ _ _ _ _ _ _ _ _ _ _ _ _ _ _ _ _ _ _ _ _ _ _ _ _ _ _ _ _ _ _ _ _ _ _ _ _ _ _ _ _ _ _ _ _ _ _ _ _ _ _ _ _ _ _ _ _ _ _ _ _ _ _ _ _ _ _ _ _ _ _ _ _ _ _ _ _ _ _ _ _ _ _ _ _ _ _ _ _ _ _ _ _ _ _ _ _ _ _ _ _ _ _ _ _ _ _ _ _ _ _ _ _ _ _ _ _ _ _ _ _ _ _ _ _ _ _ _ _ _ _ _ _ _ _ _ _ _ _ _ _ _ _ _ _ _ _ _ (hidden ?_)
  intro w6 y5 y26 y163 y164 y165 y166 y167 y168 y169 y170 y171 C5 t5
  have T6 : Hid (Turned [] w w6) := hidden (T5.out.trans t5 (by simp))
  replace C0 := C0.turned t5
  replace C1 := C1.turned t5
  replace C2 := C2.turned t5
  replace C3 := C3.turned t5
  replace C4 := C4.turned t5
  clear t5
  refine (show Code.wp Try.prog (Code.seq (headS (dropS 12 (b4 Try.f4))) (dropS 13 (b4 Try.f4))) _ _ w6 from wp_seq ?_)
  refine cp4_6 l6 c6 a6 z6 w6 _ (hidden (hS6.out.turned T6.out)) (by omega) _ _ _ _ _ _ _ _ _ _ _ _ _ _ _ _ _ _ _ _ _ _ _ _ _ _ _ _ _ _ _ _ _ _ _ _ _ _ _ _ _ _ _ _ _ _ _ _ _ _ _ _ _ _ _ _ _ _ _ _ _ _ _ _ _ _ _ _ _ _ _ _ _ _ _ _ _ _ _ _ _ _ _ _ _ _ _ _ _ _ _ _ _ _ _ _ _ _ _ _ _ _ _ _ _ _ _ _ _ _ _ _ _ _ _ _ _ _ _ _ _ _ _ _ _ _ _ _ _ _ _ _ _ _ _ _ _ _ _ _ _ _ _ _ _ _ _ _ _ _ _ _ _ _ _ _ _ _ _ _ _ _ _ _ _ _ _ _ _ _ _ _ _ _ _ _ _ _ _ _ _ _ _ _ _ _ _ _ _ _ _ _ _ _ _ _ _ _ _ _ _ _ _ _ _ _ _ _ _ _ _ _ _ _ _ _ _ _ _ _ _ _ _ _ _ _ _ _ _ _ _ _ _ _ _ _ _ _ _ _ _ _ _ _ _ _ _ _ _ _ _ _ _ _ _ _ _ _ _ _ _ _ _ _ _ _ _ _ _ _ _ _ _ _ _ _ _ _ _ _ _ _ _ _ _ _ _ _ _ _ _ _ _ _ _ _ _ _ _ _ _ _ _ _ _ _ _ _ _ _ _ _ _ _ _ _ _ _ _ _ _ _ _ _ _ _ _ _ _ _ _ _ _ _ (hidden ?_)
  intro w7 y6 y27 y172 y173 y174 y175 y176 y177 y178 y179 y180 C6 t6
  have T7 : Hid (Turned [] w w7) := hidden (T6.out.trans t6 (by simp))
  replace C0 := C0.turned t6
  replace C1 := C1.turned t6
  replace C2 := C2.turned t6
  replace C3 := C3.turned t6
  replace C4 := C4.turned t6
  replace C5 := C5.turned t6
  clear t6
  refine (show Code.wp Try.prog (Code.seq (headS (dropS 13 (b4 Try.f4))) (dropS 14 (b4 Try.f4))) _ _ w7 from wp_seq ?_)
  refine cp4_7 l7 c7 a7 z7 w7 _ (hidden (hS7.out.turned T7.out)) (by omega) _ _ _ _ _ _ _ _ _ _ _ _ _ _ _ _ _ _ _ _ _ _ _ _ _ _ _ _ _ _ _ _ _ _ _ _ _ _ _ _ _ _ _ _ _ _ _ _ _ _ _ _ _ _ _ _ _ _ _ _ _ _ _ _ _ _ _ _ _ _ _ _ _ _ _ _ _ _ _ _ _ _ _ _ _ _ _ _ _ _ _ _ _ _ _ _ _ _ _ _ _ _ _ _ _ _ _ _ _ _ _ _ _ _ _ _ _ _ _ _ _ _ _ _ _ _ _ _ _ _ _ _ _ _ _ _ _ _ _ _ _ _ _ _ _ _ _ _ _ _ _ _ _ _ _ _ _ _ _ _ _ _ _ _ _ _ _ _ _ _ _ _ _ _ _ _ _ _ _ _ _ _ _ _ _ _ _ _ _ _ _ _ _ _ _ _ _ _ _ _ _ _ _ _ _ _ _ _ _ _ _ _ _ _ _ _ _ _ _ _ _ _ _ _ _ _ _ _ _ _ _ _ _ _ _ _ _ _ _ _ _ _ _ _ _ _ _ _ _ _ _ _ _ _ _ _ _ _ _ _ _ _ _ _ _ _ _ _ _ _ _ _ _ _ _ _ _ _ _ _ _ _ _ _ _ _ _ _ _ _ _ _ _ _ _ _ _ _ _ _ _ _ _ _ _ _ _ _ _ _ _ _ _ _ _ _ _ _ _ _ _ _ _ _ _ _ _ _ _ _ _ _ _ _ (hidden ?_)
  intro w8 y7 y28 y181 y182 y183 y184 y185 y186 y187 y188 y189 C7 t7
  have T8 : Hid (Turned [] w w8) := hidden (T7.out.trans t7 (by simp))
  replace C0 := C0.turned t7
  replace C1 := C1.turned t7
  replace C2 := C2.turned t7
  replace C3 := C3.turned t7
  replace C4 := C4.turned t7
  replace C5 := C5.turned t7
  replace C6 := C6.turned t7
  clear t7
  exact hQ.out w8 _ _ _ _ _ _ _ _ _ _ _ _ _ _ _ _ _ _ _ _ _ _ _ _ _ _ _ _ _ _ _ _ _ _ _ _ _ _ _ _ _ _ _ _ _ _ _ _ _ _ _ _ _ _ _ _ _ _ _ _ _ _ _ _ _ _ _ _ _ _ _ _ _ _ _ _ _ _ _ _ _ _ _ _ _ _ _ _ _ _ _ _ _ _ _ _ _ _ _ _ _ _ _ _ _ _ _ _ _ _ _ _ _ _ _ _ _ _ _ _ _ _ _ _ _ _ _ _ _ _ _ _ _ _ _ _ _ _ _ _ _ _ _ _ _ _ _ _ _ _ _ _ _ _ _ _ _ _ _ _ _ _ _ _ _ _ _ _ T8.out C0 C1 C2 C3 C4 C5 C6 C7 d0' d1' d2' d3' d4' d5' d9' d10'

end Go.Proofs.Qxb6612201a
