/-
  WALK: shortestCycle's round at a read.
-/
import Derived.Test.Qxb6612201aR12W
import Derived.Test.Qxb6612201aOpC
import Derived.Test.Qxb6612201aCoverW
namespace Go.Proofs.Qxb6612201a
open Go.RowKit Go.Shelf
set_option linter.unusedVariables false
set_option linter.unusedSimpArgs false

set_option maxHeartbeats 25600000 in
set_option maxRecDepth 1000000 in
theorem rd_any (K : KO) (bx bWrb bRdb bTree bM z H : Nat) (W0 : World) (L : Lists) (v : Nat → Nat → Value) (nM : Nat) (D : DataW Unit) (bo ba x hi p t : Nat) (k0 : Value) (w : World) (Q : Exit → Act → World → Prop)
    (C : Hid (OpC K bx bWrb bRdb bTree bM z W0)) (A : Hid (OpAt K bM W0 L [ba, bo] v nM D w)) (HZ : Hid (z = 2 ^ H)) (hz : (z : Int) ≤ 200000) (hN : Hid (K.N = 2 * z)) (hx : (x : Int) ≤ 200000) (hh : (hi : Int) ≤ z) (ht : (t : Int) < K.n) (hcov : Hid ((cover H x hi).length ≤ 100)) (hrd : Hid ((L.rd t).length ≤ 200000)) (hrs : Hid (∀ q, (L.rs q).length ≤ 200000))
    (hbo : Hid (w.heap[bo]? = some (.cells #[k0, .int .i64 (t : Int), .int .i64 (x : Int), .int .i64 (hi : Int)] 37 (0, 0)))) (hba : Hid (w.heap[ba]? = some (.cells #[.int .i64 (p : Int), .int .i64 (t : Int)] 50 (0, 0)))) (hlow : Hid (K.base ≤ bo ∧ K.base ≤ ba))
    (u0 u1 u2 u3 u4 u7 u9 u13 u14 u15 u16 u17 u18 u19 u20 u21 u22 u23 u24 u25 u26 u27 u28 u29 u30 u31 u32 u33 u34 u35 u36 u37 u38 u39 u40 u41 u42 u43 u44 u45 u46 u47 u48 u49 u50 u51 u52 u53 u54 u55 u56 u57 u58 u59 u60 u61 u62 u63 u64 u65 u66 u67 u68 u69 u70 u71 u72 u73 u74 u75 u76 u77 u78 u79 u80 u81 u82 u83 u84 u85 u86 u87 u88 u89 u90 u91 u92 u93 u94 u95 u96 u97 u98 u99 u100 u101 u102 u103 u104 u105 u106 u107 u108 u109 u110 u111 u112 u113 u114 u115 u116 u117 u118 u119 u120 u121 u122 u123 u124 u125 u126 u127 u128 u129 u130 u131 u132 u133 u134 u135 u136 u137 u138 u139 u140 u141 u142 u143 u144 u145 u146 u147 u148 u149 u150 u151 u152 u153 u154 u155 u156 u157 u158 u159 u160 u161 u162 u163 u164 u165 u166 u167 u168 u169 u170 u171 u172 u173 u174 u175 u176 u177 u178 u179 u180 u181 u182 u183 u184 u185 u186 u187 u188 u189 u190 u191 u192 u193 u194 u195 u196 u197 u198 u199 u200 u201 u202 u203 u204 u205 u206 u207 u208 u209 u210 u211 u212 u213 u214 u215 u216 u217 u218 u219 u220 u221 u222 u223 u224 u225 u226 u227 u228 u229 u230 u231 u232 u233 u234 u235 u236 u237 u238 u239 u240 u241 u242 u243 u244 u245 u246 u247 u248 u249 u250 u251 u252 u253 u254 u255 u256 u257 u258 u259 u260 u261 u262 u263 u264 u265 u266 u267 u268 u269 u270 u271 u272 u273 u274 u275 u276 u277 u278 u279 u280 u281 u282 u283 u284 u285 u286 u287 u288 u289 u290 u291 u292 u293 u294 u295 u296 u297 u298 u299 u300 u301 u302 u303 u304 u305 u306 u307 u308 u309 u310 u311 u312 u313 u314 u315 u316 u317 u318 u319 u320 u321 u322 u323 u324 u325 u326 u327 u328 u329 u330 u331 u332 u333 u334 u335 u336 u337 u338 u339 u340 u341 u342 u343 u344 u345 u346 u347 u348 u349 u350 u351 u352 u353 u354 : Value)
    (hQ : Hid (∀ (w' : World) (v' : Nat → Nat → Value) (x83 x84 x85 x86 x87 x88 x89 x90 x91 x92 x93 x94 x95 x96 x97 x98 x99 x100 x101 x102 x103 x104 x105 x106 x107 x108 : Value), OpAt K bM W0 (L.reads t ((x : Int), (hi : Int), (p : Int)) ((p : Int), (t : Int)) (cover H x hi)) [] v' nM D w' → Q (.exit 1) { tmps := #[u0, u1, u2, u3, u4, .pointer (some ⟨bTree, 0, none⟩), .pointer (some ⟨bx, 0, none⟩), u7, .pointer (some ⟨bRdb, 0, none⟩), u9, .int .i64 (p : Int), .pointer (some ⟨bo, 0, none⟩), .pointer (some ⟨ba, 0, none⟩), u13, u14, u15, u16, u17, u18, u19, u20, u21, u22, u23, u24, u25, u26, u27, u28, u29, u30, u31, u32, u33, u34, u35, u36, u37, u38, u39, u40, u41, u42, u43, u44, u45, u46, u47, u48, u49, u50, u51, u52, u53, u54, u55, u56, u57, u58, u59, u60, u61, u62, u63, u64, u65, u66, u67, u68, u69, u70, u71, u72, u73, u74, u75, u76, u77, u78, u79, u80, u81, u82, x83, x84, x85, x86, x87, x88, x89, x90, x91, x92, x93, x94, x95, x96, x97, x98, x99, x100, x101, x102, x103, x104, x105, x106, x107, x108, u109, u110, u111, u112, u113, u114, u115, u116, u117, u118, u119, u120, u121, u122, u123, u124, u125, u126, u127, u128, u129, u130, u131, u132, u133, u134, u135, u136, u137, u138, u139, u140, u141, u142, u143, u144, u145, u146, u147, u148, u149, u150, u151, u152, u153, u154, u155, u156, u157, u158, u159, u160, u161, u162, u163, u164, u165, u166, u167, u168, u169, u170, u171, u172, u173, u174, u175, u176, u177, u178, u179, u180, u181, u182, u183, u184, u185, u186, u187, u188, u189, u190, u191, u192, u193, u194, u195, u196, u197, u198, u199, u200, u201, u202, u203, u204, u205, u206, u207, u208, u209, u210, u211, u212, u213, u214, u215, u216, u217, u218, u219, u220, u221, u222, u223, u224, u225, u226, u227, u228, u229, u230, u231, u232, u233, u234, u235, u236, u237, u238, u239, u240, u241, u242, u243, u244, u245, u246, u247, u248, u249, u250, u251, u252, u253, u254, u255, u256, u257, u258, u259, u260, u261, u262, u263, u264, u265, u266, u267, u268, u269, u270, u271, u272, u273, u274, u275, u276, u277, u278, u279, u280, u281, u282, u283, u284, u285, u286, u287, u288, u289, u290, u291, u292, u293, u294, u295, u296, u297, u298, u299, u300, u301, u302, u303, u304, u305, u306, u307, u308, u309, u310, u311, u312, u313, u314, u315, u316, u317, u318, u319, u320, u321, u322, u323, u324, u325, u326, u327, u328, u329, u330, u331, u332, u333, u334, u335, u336, u337, u338, u339, u340, u341, u342, u343, u344, u345, u346, u347, u348, u349, u350, u351, u352, u353, u354], defers := [] } w')) :
    Code.wp Try.prog (rdB Try.f14) Q { tmps := #[u0, u1, u2, u3, u4, .pointer (some ⟨bTree, 0, none⟩), .pointer (some ⟨bx, 0, none⟩), u7, .pointer (some ⟨bRdb, 0, none⟩), u9, .int .i64 (p : Int), .pointer (some ⟨bo, 0, none⟩), .pointer (some ⟨ba, 0, none⟩), u13, u14, u15, u16, u17, u18, u19, u20, u21, u22, u23, u24, u25, u26, u27, u28, u29, u30, u31, u32, u33, u34, u35, u36, u37, u38, u39, u40, u41, u42, u43, u44, u45, u46, u47, u48, u49, u50, u51, u52, u53, u54, u55, u56, u57, u58, u59, u60, u61, u62, u63, u64, u65, u66, u67, u68, u69, u70, u71, u72, u73, u74, u75, u76, u77, u78, u79, u80, u81, u82, u83, u84, u85, u86, u87, u88, u89, u90, u91, u92, u93, u94, u95, u96, u97, u98, u99, u100, u101, u102, u103, u104, u105, u106, u107, u108, u109, u110, u111, u112, u113, u114, u115, u116, u117, u118, u119, u120, u121, u122, u123, u124, u125, u126, u127, u128, u129, u130, u131, u132, u133, u134, u135, u136, u137, u138, u139, u140, u141, u142, u143, u144, u145, u146, u147, u148, u149, u150, u151, u152, u153, u154, u155, u156, u157, u158, u159, u160, u161, u162, u163, u164, u165, u166, u167, u168, u169, u170, u171, u172, u173, u174, u175, u176, u177, u178, u179, u180, u181, u182, u183, u184, u185, u186, u187, u188, u189, u190, u191, u192, u193, u194, u195, u196, u197, u198, u199, u200, u201, u202, u203, u204, u205, u206, u207, u208, u209, u210, u211, u212, u213, u214, u215, u216, u217, u218, u219, u220, u221, u222, u223, u224, u225, u226, u227, u228, u229, u230, u231, u232, u233, u234, u235, u236, u237, u238, u239, u240, u241, u242, u243, u244, u245, u246, u247, u248, u249, u250, u251, u252, u253, u254, u255, u256, u257, u258, u259, u260, u261, u262, u263, u264, u265, u266, u267, u268, u269, u270, u271, u272, u273, u274, u275, u276, u277, u278, u279, u280, u281, u282, u283, u284, u285, u286, u287, u288, u289, u290, u291, u292, u293, u294, u295, u296, u297, u298, u299, u300, u301, u302, u303, u304, u305, u306, u307, u308, u309, u310, u311, u312, u313, u314, u315, u316, u317, u318, u319, u320, u321, u322, u323, u324, u325, u326, u327, u328, u329, u330, u331, u332, u333, u334, u335, u336, u337, u338, u339, u340, u341, u342, u343, u344, u345, u346, u347, u348, u349, u350, u351, u352, u353, u354], defers := [] } w := by
  refine (show Code.wp Try.prog (Code.seq (headS (rdB Try.f14)) (dropS 1 (rdB Try.f14))) _ _ _ from wp_seq ?_)
  have hK := C.out.ok
  have hb0 := C.out.base
  have lt0 : ∀ (k : Nat) (o : Obj), W0.heap[k]? = some o → k < K.base := fun k o h => by rw [← hb0]; exact (Array.getElem?_eq_some_iff.1 h).1
  have lbx := lt0 _ _ C.out.acc
  have lrd := lt0 _ _ C.out.rd
  obtain ⟨l1, l2⟩ := hlow.out
  obtain ⟨k1, k2, k3, k4, k5, k6⟩ := hK
  have hbA : bo ≠ K.bA ∧ ba ≠ K.bA ∧ bo ≠ K.bR ∧ ba ≠ K.bR := by omega
  have h1 := K.at_rd L t
  have dm : K.dom K.bA (t * 2 + 1) := .inl ⟨rfl, by omega⟩
  have hF0 : ∀ k ∈ [ba, bo], k < w.heap.size := fun k hk => by
    simp only [List.mem_cons, List.not_mem_nil, or_false] at hk
    rcases hk with rfl | rfl
    · exact (Array.getElem?_eq_some_iff.1 hba.out).1
    · exact (Array.getElem?_eq_some_iff.1 hbo.out).1
  refine r12_any K.base K.dom K.ty K.sz v (K.len L) (K.val L) bx K.bA bo K.n x p t k0 hi w _ (hidden A.out.mem.rows) (hidden dm) (hidden ⟨h1.2.2.1, h1.2.2.2⟩) (hidden (by rw [h1.1]; have := hrd.out; omega)) (hidden fun k hk => ⟨by have := ((A.out.mem.rows.own _ _ dm).lt k hk).1; omega, fun e => A.out.mem.off _ _ dm k hk (by simp [e])⟩) ht (by omega) (A.out.keep C.out.acc (C.out.far _ (.inl rfl))) hbo.out _ _ _ _ _ _ _ _ _ _ _ _ _ _ _ _ _ _ _ _ _ _ _ _ _ _ _ _ _ _ _ _ _ _ _ _ _ _ _ _ _ _ _ _ _ _ _ _ _ _ _ _ _ _ _ _ _ _ _ _ _ _ _ _ _ _ _ _ _ _ _ _ _ _ _ _ _ _ _ _ _ _ _ _ _ _ _ _ _ _ _ _ _ _ _ _ _ _ _ _ _ _ _ _ _ _ _ _ _ _ _ _ _ _ _ _ _ _ _ _ _ _ _ _ _ _ _ _ _ _ _ _ _ _ _ _ _ _ _ _ _ _ _ _ _ _ _ _ _ _ _ _ _ _ _ _ _ _ _ _ _ _ _ _ _ _ _ _ _ _ _ _ _ _ _ _ _ _ _ _ _ _ _ _ _ _ _ _ _ _ _ _ _ _ _ _ _ _ _ _ _ _ _ _ _ _ _ _ _ _ _ _ _ _ _ _ _ _ _ _ _ _ _ _ _ _ _ _ _ _ _ _ _ _ _ _ _ _ _ _ _ _ _ _ _ _ _ _ _ _ _ _ _ _ _ _ _ _ _ _ _ _ _ _ _ _ _ _ _ _ _ _ _ _ _ _ _ _ _ _ _ _ _ _ _ _ _ _ _ _ _ _ _ _ _ _ _ _ _ _ _ _ _ _ _ _ _ _ _ _ _ _ _ _ _ _ _ _ _ _ _ _ _ _ _ _ _ _ _ _ _ _ _ _ _ _ _ _ _ _ _ _ _ _ _ _ _ _ _ _ _ _ (hidden ?_)
  intro w1 y83 y84 y85 y86 y87 y88 y89 y90 y91 y92 y93 y94 y95 y96 y97 y98 y99 y100 y101 hp
  obtain ⟨v1, A1, keep1⟩ := A.out.pushed C.out (L' := L.reads t ((x : Int), (hi : Int), (p : Int)) ((p : Int), (t : Int)) []) dm (K.len_rd L t _ _ C.out.ok) (K.val_rd L t _ _ C.out.ok) hF0 hp
  have hbo1 := keep1 bo _ (by simp) hbA.1 hbo.out
  have hba1 := keep1 ba _ (by simp) hbA.2.1 hba.out
  have g0 := cell_of_row w1 bTree 0 _ _ _ (A1.keep C.out.tree (C.out.far _ (.inr (.inr (.inr rfl)))))
  have g2 := cell_of_row w1 bo 2 _ _ _ hbo1
  have g3 := cell_of_row w1 bo 3 _ _ _ hbo1
  simp only [List.getElem?_toArray, List.getElem?_cons_zero, List.getElem?_cons_succ] at g0 g2 g3
  have HBO := hidden hbo1
  have HBA := hidden hba1
  have HA := hidden A1
  have LB := hidden hbA
  have LR := hidden lrd
  have hz2 : (z : Int) ≤ 2000000 := by omega
  have hx2 : (x : Int) ≤ 2000000 := by omega
  have hmf : ∀ (fn : Fn) (first cap : Array Value) (w : World), (Instr.makeFunc fn first cap).run Try.prog w = .ok (.func fn first cap) w := fun _ _ _ _ => rfl
  clear hbo1 hba1 A1 keep1 hp lt0 lbx lrd l1 l2 k1 k2 k3 k4 k5 k6 hbA h1 dm hF0 hb0
  show Code.wp Try.prog (dropS 1 (rdB Try.f14)) Q _ w1
  conv => arg 2; whnf
  go_wp2_with fail
  refine (cover_any 17 #[.pointer (some ⟨bRdb, 0, none⟩), .pointer (some ⟨ba, 0, none⟩)] z H x hi (fun ps w' => ∃ v', OpAt K bM W0 (L.reads t ((x : Int), (hi : Int), (p : Int)) ((p : Int), (t : Int)) ps) [ba] v' nM D w' ∧ w'.heap[ba]? = some (.cells #[.int .i64 (p : Int), .int .i64 (t : Int)] 50 (0, 0))) _ HZ hz2 hx2 hh Try.enters17 (hidden ?_) (hidden ?_)).mono ?_
  · rintro ps q w2 ⟨rest, hrest⟩ hq1 hq2 ⟨v2, A2, hba2⟩
    have hNq : q < K.N := by have := hN.out; omega
    have dq : K.dom K.bR q := .inr (.inr ⟨rfl, hNq⟩)
    have h2 := K.at_rs (L.reads t ((x : Int), (hi : Int), (p : Int)) ((p : Int), (t : Int)) ps) q C.out.ok
    have hlen : K.len (L.reads t ((x : Int), (hi : Int), (p : Int)) ((p : Int), (t : Int)) ps) K.bR q ≤ 1000000 := by
      rw [h2.1]
      show (L.rs q ++ List.replicate _ _).length ≤ _
      have h3 := hrs.out q
      have h4 : ps.count q ≤ ps.length := List.count_le_length
      have h5 := congrArg List.length hrest
      have h6 := hcov.out
      simp at h5 ⊢
      omega
    refine (put_any K.base K.dom K.ty K.sz v2 _ _ q bRdb K.bR ba K.N (p : Int) (t : Int) w2 (by have := hN.out; omega) (by omega) (hidden A2.mem.rows) (hidden dq) (hidden ⟨h2.2.2.1, h2.2.2.2⟩) (hidden hlen) (hidden fun k hk => by have := ((A2.mem.rows.own _ _ dq).lt k hk).1; have := LR.out; omega) (A2.keep C.out.rd (C.out.far _ (.inr (.inr (.inl rfl))))) hba2).mono ?_
    rintro e w3 ⟨rfl, hp3⟩
    refine ⟨rfl, ?_⟩
    obtain ⟨v3, A3, keep3⟩ := A2.pushed C.out dq (K.len_rs L t _ _ ps q C.out.ok) (K.val_rs L t _ _ ps q C.out.ok) (fun k hk => by
      rw [List.mem_singleton] at hk
      rw [hk]
      exact (Array.getElem?_eq_some_iff.1 hba2).1) hp3
    exact ⟨v3, A3, keep3 ba _ (by simp) LB.out.2.2.2 hba2⟩
  · have t9 : Turned [] w1 (w1.alloc (.cells #[.int .i64 z] 44)).drew := Turned.drew (Turned.of_grown (World.grownBy_alloc _ _ none) [] (fun k hk => by cases hk))
    exact ⟨v1, (HA.out.less (by simp)).kept t9, t9.keep HBA.out (by simp)⟩
  rintro e w4 ⟨rfl, v4, A4, _⟩
  go_wp2_with fail
  exact hQ.out w4 v4 _ _ _ _ _ _ _ _ _ _ _ _ _ _ _ _ _ _ _ _ _ _ _ _ _ _ (A4.less (by simp))

end Go.Proofs.Qxb6612201a
