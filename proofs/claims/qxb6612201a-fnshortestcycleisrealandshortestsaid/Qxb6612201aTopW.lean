/-
  WALK: shortestCycle's first part, whole.
-/
import Derived.Test.Qxb6612201aOpenW
import Derived.Test.Qxb6612201aConv
namespace Go.Proofs.Qxb6612201a
open Go.RowKit Go.Shelf
set_option linter.unusedVariables false
set_option linter.unusedSimpArgs false

theorem OpAt.begin {n items z N bh bTree bx bA bWrb bW bRdb bR bM : Nat} {hv : Array Value} {W : World} (h : Laid0 n items z N bh bTree bx bA bWrb bW bRdb bR bM hv W) :
    OpC ⟨n, items, N, bA, bW, bR, W.heap.size⟩ bx bWrb bRdb bTree bM z W ∧ OpAt ⟨n, items, N, bA, bW, bR, W.heap.size⟩ bM W ⟨fun _ => [], fun _ => [], fun _ => [], fun _ => []⟩ [] (fun _ _ => .slice none 0 0) 0 (.map []) W := by
  obtain ⟨o1, o2, o3, o4, o5, o6, o7, o8, o9⟩ := h.ord
  refine ⟨⟨⟨by simp only; omega, by simp only; omega, by simp only; omega, by simp only; omega, by simp only; omega, by simp only; omega⟩, rfl, h.acc, h.wr, h.rd, h.tree, ⟨by simp only; omega, by simp only; omega, by simp only; omega, o9⟩, fun k hk => by simp only [List.mem_cons, List.not_mem_nil, or_false]; omega⟩, ⟨⟨⟨fun b o hd => ?_, fun b o hd => ?_, fun b o hd => ?_, (fun b o b' o' _ _ _ k hk => by cases hk), fun b o hd => ?_, Nat.le_refl _⟩, (fun b o hd k hk => by cases hk)⟩, h.map, Turned.refl _ _⟩⟩
  · rcases hd with ⟨rfl, ho⟩ | ⟨rfl, ho⟩ | ⟨rfl, ho⟩
    · obtain ⟨Z, h1, h2⟩ := h.rA
      rw [cell_of_row W b o _ _ _ h1]
      exact h2 o ho
    · obtain ⟨Z, h1, h2⟩ := h.rW
      rw [cell_of_row W b o _ _ _ h1]
      exact h2 o ho
    · obtain ⟨Z, h1, h2⟩ := h.rR
      rw [cell_of_row W b o _ _ _ h1]
      exact h2 o ho
  · rcases hd with ⟨rfl, ho⟩ | ⟨rfl, ho⟩ | ⟨rfl, ho⟩
    · obtain ⟨Z, h1, h2⟩ := h.rA
      exact frozen_of_row W b o _ _ h1
    · obtain ⟨Z, h1, h2⟩ := h.rW
      exact frozen_of_row W b o _ _ h1
    · obtain ⟨Z, h1, h2⟩ := h.rR
      exact frozen_of_row W b o _ _ h1
  · have e : (KO.len ⟨n, items, N, bA, bW, bR, W.heap.size⟩ ⟨fun _ => [], fun _ => [], fun _ => [], fun _ => []⟩ b o) = 0 ∧ (KO.val ⟨n, items, N, bA, bW, bR, W.heap.size⟩ ⟨fun _ => [], fun _ => [], fun _ => [], fun _ => []⟩ b o) = [] := by
      unfold KO.len KO.val
      simp only
      constructor <;> (repeat' split) <;> rfl
    rw [e.1, e.2]
    exact World.ownsRow_nil _ _ _ _
  · rcases hd with ⟨rfl, ho⟩ | ⟨rfl, ho⟩ | ⟨rfl, ho⟩ <;> (simp only; omega)

set_option maxHeartbeats 25600000 in
set_option maxRecDepth 1000000 in
theorem top_any (h : Hist) (n items s m gOps gO : Nat) (c3 c4 : Value) (ta : Option Addr) (tc : Nat) (w : World) (Q : Exit → Act → World → Prop) (hn : (n : Int) ≤ 1024) (hit : (items : Int) ≤ 65536) (hm : Hid (m ≤ 1024))
    (hops : Hid (gOps < w.heap.size ∧ ∀ i, i < m → w.cell? ⟨gOps, i * 4, none⟩ = some (.int .i64 (iAt h.ks i)) ∧ w.cell? ⟨gOps, i * 4 + 1, none⟩ = some (.int .i64 (iAt h.ts i)) ∧ w.cell? ⟨gOps, i * 4 + 2, none⟩ = some (.int .i64 (iAt h.los i)) ∧ w.cell? ⟨gOps, i * 4 + 3, none⟩ = some (.int .i64 (iAt h.his i))))
    (hocs : Hid (gO < w.heap.size ∧ ∀ i, i < n → w.cell? ⟨gO, i, none⟩ = some (.int .i8 (iAt h.ocs i))))
    (S : Hid (∀ i, i < m → OpOk n items (iAt h.ks i) (iAt h.ts i) (iAt h.los i) (iAt h.his i)))
    (u2 u3 u4 u5 u6 u7 u8 u9 u10 u11 u12 u13 u14 u15 u16 u17 u18 u19 u20 u21 u22 u23 u24 u25 u26 u27 u28 u29 u30 u31 u32 u33 u34 u35 u36 u37 u38 u39 u40 u41 u42 u43 u44 u45 u46 u47 u48 u49 u50 u51 u52 u53 u54 u55 u56 u57 u58 u59 u60 u61 u62 u63 u64 u65 u66 u67 u68 u69 u70 u71 u72 u73 u74 u75 u76 u77 u78 u79 u80 u81 u82 u83 u84 u85 u86 u87 u88 u89 u90 u91 u92 u93 u94 u95 u96 u97 u98 u99 u100 u101 u102 u103 u104 u105 u106 u107 u108 u109 u110 u111 u112 u113 u114 u115 u116 u117 u118 u119 u120 u121 u122 u123 u124 u125 u126 u127 u128 u129 u130 u131 u132 u133 u134 u135 u136 u137 u138 u139 u140 u141 u142 u143 u144 u145 u146 u147 u148 u149 u150 u151 u152 u153 u154 u155 u156 u157 u158 u159 u160 u161 u162 u163 u164 u165 u166 u167 u168 u169 u170 u171 u172 u173 u174 u175 u176 u177 u178 u179 u180 u181 u182 u183 u184 u185 u186 u187 u188 u189 u190 u191 u192 u193 u194 u195 u196 u197 u198 u199 u200 u201 u202 u203 u204 u205 u206 u207 u208 u209 u210 u211 u212 u213 u214 u215 u216 u217 u218 u219 u220 u221 u222 u223 u224 u225 u226 u227 u228 u229 u230 u231 u232 u233 u234 u235 u236 u237 u238 u239 u240 u241 u242 u243 u244 u245 u246 u247 u248 u249 u250 u251 u252 u253 u254 u255 u256 u257 u258 u259 u260 u261 u262 u263 u264 u265 u266 u267 u268 u269 u270 u271 u272 u273 u274 u275 u276 u277 u278 u279 u280 u281 u282 u283 u284 u285 u286 u287 u288 u289 u290 u291 u292 u293 u294 u295 u296 u297 u298 u299 u300 u301 u302 u303 u304 u305 u306 u307 u308 u309 u310 u311 u312 u313 u314 u315 u316 u317 u318 u319 u320 u321 u322 u323 u324 u325 u326 u327 u328 u329 u330 u331 u332 u333 u334 u335 u336 u337 u338 u339 u340 u341 u342 u343 u344 u345 u346 u347 u348 u349 u350 u351 u352 u353 u354 : Value)
    (hQ : Hid (∀ (W : World) (z N H bh bTree bx bA bWrb bW bRdb bR : Nat) (L : Lists) (x4 x9 x10 x11 x12 x13 x14 x41 x42 x43 x44 x45 x46 x47 x48 x49 x50 x51 x52 x53 x54 x55 x56 x57 x58 x59 x60 x61 x62 x63 x64 x65 x66 x67 x68 x69 x70 x71 x72 x73 x74 x75 x76 x77 x78 x79 x80 x81 x82 x83 x84 x85 x86 x87 x88 x89 x90 x91 x92 x93 x94 x95 x96 x97 x98 x99 x100 x101 x102 x103 x104 x105 x106 x107 x108 x109 x110 x111 x112 x113 x114 x115 x116 x117 x118 x119 x120 x121 x122 x123 x124 x125 x126 x127 x128 x129 x130 x131 x132 x133 x134 x135 x136 x137 x138 x139 x140 x141 x142 x143 x144 x145 x146 x147 x148 x149 x150 x151 x152 x153 x154 x155 x156 x157 x158 x159 x160 x161 x162 x163 x164 x165 x166 x167 x168 x169 x170 x171 x172 x173 x174 : Value), Below w.heap.size w W → PowFor items z → z = 2 ^ H → N = 2 * z → z ≤ 200000 → AccTab W.heap.size W bx bA n L.wr L.rd → Tab W.heap.size W bWrb bW items L.ws → Tab W.heap.size W bRdb bR N L.rs →
      (W.heap[bTree]? = some (.cells #[.int .i64 z] 44 (0, 0)) ∧ bTree < W.heap.size) → W.heap[bh]? = some (.cells #[.slice (some ⟨gOps, 0, none⟩) m m, .slice ta n tc, .slice (some ⟨gO, 0, none⟩) n n, c3, c4, .int .i64 (items : Int)] 42 (0, 0)) → Told h H m L → Sane h m n items → items ≤ z → Code.wp Try.prog (dropS 7 (b14 Try.f14)) Q { tmps := #[.agg #[.slice (some ⟨gOps, 0, none⟩) m m, .slice ta n tc, .slice (some ⟨gO, 0, none⟩) n n, c3, c4, .int .i64 (items : Int)], .int .i64 (s : Int), .pointer (some ⟨bh, 0, none⟩), u3, x4, .pointer (some ⟨bTree, 0, none⟩), .pointer (some ⟨bx, 0, none⟩), .pointer (some ⟨bWrb, 0, none⟩), .pointer (some ⟨bRdb, 0, none⟩), x9, x10, x11, x12, x13, x14, u15, u16, u17, u18, u19, u20, u21, u22, u23, u24, u25, u26, u27, u28, u29, u30, u31, u32, u33, u34, u35, u36, u37, u38, u39, u40, x41, x42, x43, x44, x45, x46, x47, x48, x49, x50, x51, x52, x53, x54, x55, x56, x57, x58, x59, x60, x61, x62, x63, x64, x65, x66, x67, x68, x69, x70, x71, x72, x73, x74, x75, x76, x77, x78, x79, x80, x81, x82, x83, x84, x85, x86, x87, x88, x89, x90, x91, x92, x93, x94, x95, x96, x97, x98, x99, x100, x101, x102, x103, x104, x105, x106, x107, x108, x109, x110, x111, x112, x113, x114, x115, x116, x117, x118, x119, x120, x121, x122, x123, x124, x125, x126, x127, x128, x129, x130, x131, x132, x133, x134, x135, x136, x137, x138, x139, x140, x141, x142, x143, x144, x145, x146, x147, x148, x149, x150, x151, x152, x153, x154, x155, x156, x157, x158, x159, x160, x161, x162, x163, x164, x165, x166, x167, x168, x169, x170, x171, x172, x173, x174, u175, u176, u177, u178, u179, u180, u181, u182, u183, u184, u185, u186, u187, u188, u189, u190, u191, u192, u193, u194, u195, u196, u197, u198, u199, u200, u201, u202, u203, u204, u205, u206, u207, u208, u209, u210, u211, u212, u213, u214, u215, u216, u217, u218, u219, u220, u221, u222, u223, u224, u225, u226, u227, u228, u229, u230, u231, u232, u233, u234, u235, u236, u237, u238, u239, u240, u241, u242, u243, u244, u245, u246, u247, u248, u249, u250, u251, u252, u253, u254, u255, u256, u257, u258, u259, u260, u261, u262, u263, u264, u265, u266, u267, u268, u269, u270, u271, u272, u273, u274, u275, u276, u277, u278, u279, u280, u281, u282, u283, u284, u285, u286, u287, u288, u289, u290, u291, u292, u293, u294, u295, u296, u297, u298, u299, u300, u301, u302, u303, u304, u305, u306, u307, u308, u309, u310, u311, u312, u313, u314, u315, u316, u317, u318, u319, u320, u321, u322, u323, u324, u325, u326, u327, u328, u329, u330, u331, u332, u333, u334, u335, u336, u337, u338, u339, u340, u341, u342, u343, u344, u345, u346, u347, u348, u349, u350, u351, u352, u353, u354], defers := [] } W)) :
    Code.wp Try.prog (b14 Try.f14) Q { tmps := #[.agg #[.slice (some ⟨gOps, 0, none⟩) m m, .slice ta n tc, .slice (some ⟨gO, 0, none⟩) n n, c3, c4, .int .i64 (items : Int)], .int .i64 (s : Int), u2, u3, u4, u5, u6, u7, u8, u9, u10, u11, u12, u13, u14, u15, u16, u17, u18, u19, u20, u21, u22, u23, u24, u25, u26, u27, u28, u29, u30, u31, u32, u33, u34, u35, u36, u37, u38, u39, u40, u41, u42, u43, u44, u45, u46, u47, u48, u49, u50, u51, u52, u53, u54, u55, u56, u57, u58, u59, u60, u61, u62, u63, u64, u65, u66, u67, u68, u69, u70, u71, u72, u73, u74, u75, u76, u77, u78, u79, u80, u81, u82, u83, u84, u85, u86, u87, u88, u89, u90, u91, u92, u93, u94, u95, u96, u97, u98, u99, u100, u101, u102, u103, u104, u105, u106, u107, u108, u109, u110, u111, u112, u113, u114, u115, u116, u117, u118, u119, u120, u121, u122, u123, u124, u125, u126, u127, u128, u129, u130, u131, u132, u133, u134, u135, u136, u137, u138, u139, u140, u141, u142, u143, u144, u145, u146, u147, u148, u149, u150, u151, u152, u153, u154, u155, u156, u157, u158, u159, u160, u161, u162, u163, u164, u165, u166, u167, u168, u169, u170, u171, u172, u173, u174, u175, u176, u177, u178, u179, u180, u181, u182, u183, u184, u185, u186, u187, u188, u189, u190, u191, u192, u193, u194, u195, u196, u197, u198, u199, u200, u201, u202, u203, u204, u205, u206, u207, u208, u209, u210, u211, u212, u213, u214, u215, u216, u217, u218, u219, u220, u221, u222, u223, u224, u225, u226, u227, u228, u229, u230, u231, u232, u233, u234, u235, u236, u237, u238, u239, u240, u241, u242, u243, u244, u245, u246, u247, u248, u249, u250, u251, u252, u253, u254, u255, u256, u257, u258, u259, u260, u261, u262, u263, u264, u265, u266, u267, u268, u269, u270, u271, u272, u273, u274, u275, u276, u277, u278, u279, u280, u281, u282, u283, u284, u285, u286, u287, u288, u289, u290, u291, u292, u293, u294, u295, u296, u297, u298, u299, u300, u301, u302, u303, u304, u305, u306, u307, u308, u309, u310, u311, u312, u313, u314, u315, u316, u317, u318, u319, u320, u321, u322, u323, u324, u325, u326, u327, u328, u329, u330, u331, u332, u333, u334, u335, u336, u337, u338, u339, u340, u341, u342, u343, u344, u345, u346, u347, u348, u349, u350, u351, u352, u353, u354], defers := [] } w := by
  refine open_any n items s _ _ c3 c4 ta tc w Q hn hit _ _ _ _ _ _ _ _ _ _ _ _ _ _ _ _ _ _ _ _ _ _ _ _ _ _ _ _ _ _ _ _ _ _ _ _ _ _ _ _ _ _ _ _ _ _ _ _ _ _ _ _ _ _ _ _ _ _ _ _ _ _ _ _ _ _ _ _ _ _ _ _ _ _ _ _ _ _ _ _ _ _ _ _ _ _ _ _ _ _ _ _ _ _ _ _ _ _ _ _ _ _ _ _ _ _ _ _ _ _ _ _ _ _ _ _ _ _ _ _ _ _ _ _ _ _ _ _ _ _ _ _ _ _ _ _ _ _ _ _ _ _ _ _ _ _ _ _ _ _ _ _ _ _ _ _ _ _ _ _ _ _ _ _ _ _ _ _ _ _ _ _ _ _ _ _ _ _ _ _ _ _ _ _ _ _ _ _ _ _ _ _ _ _ _ _ _ _ _ _ _ _ _ _ _ _ _ _ _ _ _ _ _ _ _ _ _ _ _ _ _ _ _ _ _ _ _ _ _ _ _ _ _ _ _ _ _ _ _ _ _ _ _ _ _ _ _ _ _ _ _ _ _ _ _ _ _ _ _ _ _ _ _ _ _ _ _ _ _ _ _ _ _ _ _ _ _ _ _ _ _ _ _ _ _ _ _ _ _ _ _ _ _ _ _ _ _ _ _ _ _ _ _ _ _ _ _ _ _ _ _ _ _ _ _ _ _ _ _ _ _ _ _ _ _ _ _ _ _ _ _ _ _ _ _ _ _ _ _ _ _ _ _ _ _ _ _ _ _ _ _ _ _ (hidden ?_)
  intro W z N bh bTree bx bA bWrb bW bRdb bR bM y4 y41 y42 y43 y44 y45 y46 y47 y48 y49 y50 y51 y52 y53 y54 y55 hPz hN t0 hbh hL
  obtain ⟨C, A⟩ := OpAt.begin hL
  obtain ⟨H, hzH, hiz, hpw⟩ := hPz
  have hz : (z : Int) ≤ 200000 := by
    rcases hpw with rfl | h3
    · rw [hzH]; decide
    · omega
  have hord := hL.ord
  have G : OpG h ⟨n, items, N, bA, bW, bR, W.heap.size⟩ bh gOps gO m bM (.slice ta n tc) c3 c4 (.int .i64 (items : Int)) W := by
    refine ⟨hL.box, fun i hi => ?_, fun i hi => t0.cell (hocs.out.2 i hi) (by simp), fun k hk => ?_⟩
    · obtain ⟨q0, q1, q2, q3⟩ := hops.out.2 i hi
      exact ⟨t0.cell q0 (by simp), t0.cell q1 (by simp), t0.cell q2 (by simp), t0.cell q3 (by simp)⟩
    · have h1 := hops.out.1
      have h2 := hocs.out.1
      simp only [List.mem_cons, List.not_mem_nil, or_false]
      omega
  refine (show Code.wp Try.prog (Code.seq (headS (dropS 6 (b14 Try.f14))) (dropS 7 (b14 Try.f14))) Q _ W from wp_seq ?_)
  refine ops_any h ⟨n, items, N, bA, bW, bR, W.heap.size⟩ bx bWrb bRdb bTree bM z H W _ _ 0 _ bh gOps gO m _ c3 c4 _ W _ (hidden C) (hidden G) (hidden A) (hidden hzH) hz (hidden hN) (hidden hiz) (hidden (by simp only; omega)) hm S (hidden (Told.start h H)) (hidden WroteIs.start) (hidden (Nat.le_refl _)) (hidden fun lo hi _ => cover_len hzH (by omega) lo hi) _ _ _ _ _ _ _ _ _ _ _ _ _ _ _ _ _ _ _ _ _ _ _ _ _ _ _ _ _ _ _ _ _ _ _ _ _ _ _ _ _ _ _ _ _ _ _ _ _ _ _ _ _ _ _ _ _ _ _ _ _ _ _ _ _ _ _ _ _ _ _ _ _ _ _ _ _ _ _ _ _ _ _ _ _ _ _ _ _ _ _ _ _ _ _ _ _ _ _ _ _ _ _ _ _ _ _ _ _ _ _ _ _ _ _ _ _ _ _ _ _ _ _ _ _ _ _ _ _ _ _ _ _ _ _ _ _ _ _ _ _ _ _ _ _ _ _ _ _ _ _ _ _ _ _ _ _ _ _ _ _ _ _ _ _ _ _ _ _ _ _ _ _ _ _ _ _ _ _ _ _ _ _ _ _ _ _ _ _ _ _ _ _ _ _ _ _ _ _ _ _ _ _ _ _ _ _ _ _ _ _ _ _ _ _ _ _ _ _ _ _ _ _ _ _ _ _ _ _ _ _ _ _ _ _ _ _ _ _ _ _ _ _ _ _ _ _ _ _ _ _ _ _ _ _ _ _ _ _ _ _ _ _ _ _ _ _ _ _ _ _ _ _ _ _ _ _ _ _ _ _ _ _ _ _ _ _ _ _ _ _ _ _ _ _ _ _ _ _ _ _ _ _ _ _ _ _ _ _ _ _ _ _ _ _ _ _ _ _ _ _ _ _ _ _ _ _ _ _ _ _ _ _ _ _ _ _ _ _ _ _ _ _ _ _ _ _ _ _ (hidden ?_)
  intro W' v' nM' D' L' z10 z11 z12 z13 z14 z56 z57 z58 z59 z60 z61 z62 z63 z64 z65 z66 z67 z68 z69 z70 z71 z72 z73 z74 z75 z76 z77 z78 z79 z80 z81 z82 z83 z84 z85 z86 z87 z88 z89 z90 z91 z92 z93 z94 z95 z96 z97 z98 z99 z100 z101 z102 z103 z104 z105 z106 z107 z108 z109 z110 z111 z112 z113 z114 z115 z116 z117 z118 z119 z120 z121 z122 z123 z124 z125 z126 z127 z128 z129 z130 z131 z132 z133 z134 z135 z136 z137 z138 z139 z140 z141 z142 z143 z144 z145 z146 z147 z148 z149 z150 z151 z152 z153 z154 z155 z156 z157 z158 z159 z160 z161 z162 z163 z164 z165 z166 z167 z168 z169 z170 z171 z172 z173 z174 A' T'
  have hS := sane_of S.out
  have hb : Below w.heap.size w W' := (t0.below (Nat.le_refl _) (by simp)).trans (A'.turned.below t0.size (by
    simp only [List.mem_cons, List.not_mem_nil, or_false]
    omega))
  exact hQ.out W' z N H bh bTree bx bA bWrb bW bRdb bR L' _ _ _ _ _ _ _ _ _ _ _ _ _ _ _ _ _ _ _ _ _ _ _ _ _ _ _ _ _ _ _ _ _ _ _ _ _ _ _ _ _ _ _ _ _ _ _ _ _ _ _ _ _ _ _ _ _ _ _ _ _ _ _ _ _ _ _ _ _ _ _ _ _ _ _ _ _ _ _ _ _ _ _ _ _ _ _ _ _ _ _ _ _ _ _ _ _ _ _ _ _ _ _ _ _ _ _ _ _ _ _ _ _ _ _ _ _ _ _ _ _ _ _ _ _ _ _ _ _ _ _ _ _ _ _ _ _ _ _ _ _ hb ⟨H, hzH, hiz, hpw⟩ hzH hN (by omega) (tab_acc C A' T' hS hm.out (by simp only; omega)) (tab_w C A' T' hm.out) (tab_r C A' T' hm.out) ⟨A'.keep C.tree (C.far _ (.inr (.inr (.inr rfl)))), by have := A'.turned.size; omega⟩ (A'.keep G.box (G.far _ (.inl rfl))) T' hS hiz

end Go.Proofs.Qxb6612201a
