/-
  WALK: shortestCycle's laying of the search's memory, and all that follows.
-/
import Derived.Test.Qxb6612201aMid2W
namespace Go.Proofs.Qxb6612201a
open Go.RowKit Go.Shelf
set_option linter.unusedVariables false
set_option linter.unusedSimpArgs false

theorem PowFor.unique {n z z' : Nat} (h : PowFor n z) (h' : PowFor n z') : z = z' := by
  obtain ⟨H, rfl, h1, h2⟩ := h
  obtain ⟨H', rfl, h1', h2'⟩ := h'
  have key : ∀ a b : Nat, a < b → n ≤ 2 ^ a → (b = 0 ∨ 2 ^ b < 2 * n) → False := fun a b hab ha hb => by
    have h3 : 2 ^ (a + 1) ≤ 2 ^ b := Nat.pow_le_pow_right (by decide) hab
    rw [Nat.pow_succ] at h3
    omega
  rcases Nat.lt_trichotomy H H' with h | h | h
  · exact (key H H' h h1 h2').elim
  · rw [h]
  · exact (key H' H h h1' h2).elim

/-- The tree of the first writes, of the items up to k. -/
def PAt3 (H z items N g : Nat) (ws : Nat → List (Int × Int)) (k : Nat) (W7 w : World) : Prop :=
  ∃ arr : List Int, w.heap[g]? = some (.cells (arr.map (Value.int .i64)).toArray 3 (0, 0)) ∧ IsMin H arr ∧ (∀ x, x < k → iAt arr (z + x) = ((ws x)[0]?.map Prod.fst).getD 9223372036854775807) ∧ (∀ x, k ≤ x → x < z → iAt arr (z + x) = 9223372036854775807) ∧ Turned [g] W7 w

/-- The distances set to -1 up to k. -/
def DAt (b n : Nat) (W1 : World) (k : Nat) (w : World) : Prop := ∃ ds : List Int, w.heap[b]? = some (.cells (ds.map (Value.int .i64)).toArray 3 (0, 0)) ∧ ds.length = n ∧ (∀ j, j < k → dAt ds j = -1) ∧ Turned [b] W1 w

set_option maxHeartbeats 25600000 in
set_option maxRecDepth 1000000 in
theorem mid_any (h : Hist) (n z N items H m s bh bx bA bTree bWrb bWr bRdb bRd : Nat) (L : Lists) (c0 c2 c3 c4 : Value) (ta : Option Addr) (tc : Nat) (w00 w : World) (h00 : Hid (Below w00.heap.size w00 w)) (hn : (n : Int) ≤ 1024) (hs : (s : Int) < n) (hz : (z : Int) ≤ 200000) (hit : (items : Int) ≤ 65536) (hNN : Hid (N = 2 * z)) (hPz : Hid (PowFor items z)) (hTabW : Hid (Tab w.heap.size w bWrb bWr items L.ws)) (hTabR : Hid (w.heap[bRdb]? = some (.cells #[.slice (some ⟨bRd, 0, none⟩) N N] 47 (0, 0)))) (hNl : (N : Int) ≤ 400000)
    (hbh : Hid (w.heap[bh]? = some (.cells #[c0, .slice ta n tc, c2, c3, c4, .int .i64 items] 42 (0, 0))))
    (hI : Hid (∀ K : Kon, K.n = n → K.z = z → K.N = N → K.items = items → K.B = w.heap.size → BIn h K H m bx bA bTree bWrb bWr bRdb bRd L w)) (hon : Hid (∀ d : Nat → Int, IsDist (fun a b => h.Edge m b a) s d → ∃ v, h.Edge m s v ∧ 0 ≤ d v))
    (u0 u3 u4 u9 u10 u11 u12 u13 u14 u15 u16 u17 u18 u19 u20 u21 u22 u23 u24 u25 u26 u27 u28 u29 u30 u31 u32 u33 u34 u35 u36 u37 u38 u39 u40 u41 u42 u43 u44 u45 u46 u47 u48 u49 u50 u51 u52 u53 u54 u55 u56 u57 u58 u59 u60 u61 u62 u63 u64 u65 u66 u67 u68 u69 u70 u71 u72 u73 u74 u75 u76 u77 u78 u79 u80 u81 u82 u83 u84 u85 u86 u87 u88 u89 u90 u91 u92 u93 u94 u95 u96 u97 u98 u99 u100 u101 u102 u103 u104 u105 u106 u107 u108 u109 u110 u111 u112 u113 u114 u115 u116 u117 u118 u119 u120 u121 u122 u123 u124 u125 u126 u127 u128 u129 u130 u131 u132 u133 u134 u135 u136 u137 u138 u139 u140 u141 u142 u143 u144 u145 u146 u147 u148 u149 u150 u151 u152 u153 u154 u155 u156 u157 u158 u159 u160 u161 u162 u163 u164 u165 u166 u167 u168 u169 u170 u171 u172 u173 u174 u175 u176 u177 u178 u179 u180 u181 u182 u183 u184 u185 u186 u187 u188 u189 u190 u191 u192 u193 u194 u195 u196 u197 u198 u199 u200 u201 u202 u203 u204 u205 u206 u207 u208 u209 u210 u211 u212 u213 u214 u215 u216 u217 u218 u219 u220 u221 u222 u223 u224 u225 u226 u227 u228 u229 u230 u231 u232 u233 u234 u235 u236 u237 u238 u239 u240 u241 u242 u243 u244 u245 u246 u247 u248 u249 u250 u251 u252 u253 u254 u255 u256 u257 u258 u259 u260 u261 u262 u263 u264 u265 u266 u267 u268 u269 u270 u271 u272 u273 u274 u275 u276 u277 u278 u279 u280 u281 u282 u283 u284 u285 u286 u287 u288 u289 u290 u291 u292 u293 u294 u295 u296 u297 u298 u299 u300 u301 u302 u303 u304 u305 u306 u307 u308 u309 u310 u311 u312 u313 u314 u315 u316 u317 u318 u319 u320 u321 u322 u323 u324 u325 u326 u327 u328 u329 u330 u331 u332 u333 u334 u335 u336 u337 u338 u339 u340 u341 u342 u343 u344 u345 u346 u347 u348 u349 u350 u351 u352 u353 u354 : Value) :
    Code.wp Try.prog (dropS 7 (b14 Try.f14)) (bodyPost Try.prog Try.f14 fun e w' => ∃ ds : List Int, IsDist (fun a b => h.Edge m b a) s (dAt ds) ∧ EndPost (h.Edge m) s ds w00 e w') { tmps := #[u0, .int .i64 s, .pointer (some ⟨bh, 0, none⟩), u3, u4, .pointer (some ⟨bTree, 0, none⟩), .pointer (some ⟨bx, 0, none⟩), .pointer (some ⟨bWrb, 0, none⟩), .pointer (some ⟨bRdb, 0, none⟩), u9, u10, u11, u12, u13, u14, u15, u16, u17, u18, u19, u20, u21, u22, u23, u24, u25, u26, u27, u28, u29, u30, u31, u32, u33, u34, u35, u36, u37, u38, u39, u40, u41, u42, u43, u44, u45, u46, u47, u48, u49, u50, u51, u52, u53, u54, u55, u56, u57, u58, u59, u60, u61, u62, u63, u64, u65, u66, u67, u68, u69, u70, u71, u72, u73, u74, u75, u76, u77, u78, u79, u80, u81, u82, u83, u84, u85, u86, u87, u88, u89, u90, u91, u92, u93, u94, u95, u96, u97, u98, u99, u100, u101, u102, u103, u104, u105, u106, u107, u108, u109, u110, u111, u112, u113, u114, u115, u116, u117, u118, u119, u120, u121, u122, u123, u124, u125, u126, u127, u128, u129, u130, u131, u132, u133, u134, u135, u136, u137, u138, u139, u140, u141, u142, u143, u144, u145, u146, u147, u148, u149, u150, u151, u152, u153, u154, u155, u156, u157, u158, u159, u160, u161, u162, u163, u164, u165, u166, u167, u168, u169, u170, u171, u172, u173, u174, u175, u176, u177, u178, u179, u180, u181, u182, u183, u184, u185, u186, u187, u188, u189, u190, u191, u192, u193, u194, u195, u196, u197, u198, u199, u200, u201, u202, u203, u204, u205, u206, u207, u208, u209, u210, u211, u212, u213, u214, u215, u216, u217, u218, u219, u220, u221, u222, u223, u224, u225, u226, u227, u228, u229, u230, u231, u232, u233, u234, u235, u236, u237, u238, u239, u240, u241, u242, u243, u244, u245, u246, u247, u248, u249, u250, u251, u252, u253, u254, u255, u256, u257, u258, u259, u260, u261, u262, u263, u264, u265, u266, u267, u268, u269, u270, u271, u272, u273, u274, u275, u276, u277, u278, u279, u280, u281, u282, u283, u284, u285, u286, u287, u288, u289, u290, u291, u292, u293, u294, u295, u296, u297, u298, u299, u300, u301, u302, u303, u304, u305, u306, u307, u308, u309, u310, u311, u312, u313, u314, u315, u316, u317, u318, u319, u320, u321, u322, u323, u324, u325, u326, u327, u328, u329, u330, u331, u332, u333, u334, u335, u336, u337, u338, u339, u340, u341, u342, u343, u344, u345, u346, u347, u348, u349, u350, u351, u352, u353, u354], defers := [] } w := by
  refine (show Code.wp Try.prog (Code.seq (headS (dropS 7 (b14 Try.f14))) (dropS 8 (b14 Try.f14))) _ _ _ from wp_seq ?_)
  conv => arg 2; whnf
  have hmf : ∀ (fn : Fn) (first cap : Array Value) (w : World), (Instr.makeFunc fn first cap).run Try.prog w = .ok (.func fn first cap) w := fun _ _ _ _ => rfl
  have lh : bh < w.heap.size := (Array.getElem?_eq_some_iff.1 hbh.out).1
  have e1 := cell_of_row w bh 1 _ _ _ hbh.out
  simp only [List.getElem?_toArray, List.getElem?_cons_zero, List.getElem?_cons_succ] at e1
  obtain ⟨Z1, hZ1, hmk1⟩ := make22 n (by omega)
  have HZ1 := hidden hZ1
  clear hZ1
  have b0 : (0 : Int) ≤ s := by omega
  go_wp2_with fail
  clear hmk1 e1
  obtain ⟨W1, hW1⟩ : ∃ W1, (w.alloc (.cells Z1 3)).alloc (.cells #[.slice (some ⟨w.heap.size, 0, none⟩) n n] 22) = W1 := ⟨_, rfl⟩
  have t1 : Turned [] w W1 := by
    rw [← hW1]
    exact Turned.trans (Turned.of_grown (World.grownBy_alloc w _ none) [] (fun k hk => by cases hk)) (Turned.of_grown (World.grownBy_alloc _ _ none) [] (fun k hk => by cases hk)) (by simp)
  have x1 : W1.heap[w.heap.size]? = some (.cells Z1 3 (0, 0)) := by rw [← hW1, heap_alloc_old _ _ (by simp)]; exact heap_alloc_new w _
  have x2 : W1.heap[w.heap.size + 1]? = some (.cells #[.slice (some ⟨w.heap.size, 0, none⟩) n n] 22 (0, 0)) := by rw [← hW1]; exact heap_two w _ _
  have s1 : W1.heap.size = w.heap.size + 2 := by rw [← hW1]; simp
  rw [hW1]
  clear hW1
  rw [HZ1.out] at x1
  refine (show Code.wp Try.prog (Code.seq (headS (dropS 8 (b14 Try.f14))) (dropS 9 (b14 Try.f14))) _ _ _ from wp_seq ?_)
  conv => arg 2; whnf
  have e2 := cell_of_row W1 (w.heap.size + 1) 0 _ _ _ x2
  simp only [List.getElem?_toArray, List.getElem?_cons_zero] at e2
  have D0 : Hid (DAt (w.heap.size) n W1 0 W1) := hidden ⟨List.replicate n 0, x1, by simp, fun j hj => by omega, Turned.refl _ _⟩
  have X2 := hidden x2
  have T1 := hidden t1
  clear x1 x2 HZ1
  go_wp2_with fail
  go_loopw [181] (fun v wr => ∃ k : Nat, v = .int .i64 k ∧ k ≤ n ∧ Hid (DAt w.heap.size n W1 k wr)) (fun v _ => n - (intOf v).toNat)
  case atStart => exact ⟨0, rfl, Nat.zero_le _, D0⟩
  case round =>
    clear D0 e2
    obtain ⟨k, rfl, hk, hD⟩ := hrel
    obtain ⟨ds, y1, y2, y3, y4⟩ := hD.out
    have y5 := y4.keep X2.out (by simp)
    have e3 := cell_of_row wr (w.heap.size + 1) 0 _ _ _ y5
    simp only [List.getElem?_toArray, List.getElem?_cons_zero] at e3
    by_cases hlt : (k : Int) < n
    · have e4 := cell_of_row wr w.heap.size k _ _ _ y1
      have f4 := frozen_of_row wr w.heap.size k _ _ y1
      rw [dist_get _ k (by omega)] at e4
      have bk : (0 : Int) ≤ k := by omega
      have NEXT : Hid (DAt w.heap.size n W1 (k + 1) (wr.setCell ⟨w.heap.size, k, none⟩ (.int .i64 (-1)))) := hidden ⟨ds.set k (-1), by rw [heap_setCell_same wr w.heap.size k _ 3 _ y1]; simp [List.map_set], by rw [List.length_set]; exact y2, fun j hj => by
        rw [dAt_set _ _ _ _ (by omega)]
        by_cases e : j = k
        · rw [if_pos e]
        · rw [if_neg e]; exact y3 j (by omega), y4.trans (Turned.of_grown (grown_set wr w.heap.size k _) [w.heap.size] (fun q hq => by cases hq; simp)) (by simp)⟩
      clear y1 y3 y4 y5
      go_wp2_with fail
      exact ⟨⟨k + 1, by go_num, by omega, NEXT⟩, by simp [intOf]; omega⟩
    have hkn : k = n := by omega
    subst hkn
    have hds : ds = List.replicate k (-1) := by
      apply List.ext_getElem (by simp [y2])
      intro i h1 h2
      have h3 := y3 i (by omega)
      unfold dAt at h3
      rw [List.getD_eq_getElem?_getD, List.getElem?_eq_getElem h1] at h3
      simpa using h3
    subst hds
    go_wp2_with fail
    have sr : w.heap.size + 2 ≤ wr.heap.size := by have := y4.size; omega
    have fDist := y5
    have tA : Turned [w.heap.size] w wr := Turned.trans (S := [w.heap.size]) ⟨T1.out.os, T1.out.tape, T1.out.output, T1.out.size, fun q hq _ => T1.out.block q hq (by simp)⟩ y4 (by simp)
    have e4 := cell_of_row wr w.heap.size s _ _ _ y1
    have f4 := frozen_of_row wr w.heap.size s _ _ y1
    rw [dist_get _ s (by simp; omega)] at e4
    refine (show Code.wp Try.prog (Code.seq (headS (dropS 9 (b14 Try.f14))) (dropS 10 (b14 Try.f14))) _ _ _ from wp_seq ?_)
    conv => arg 2; whnf
    go_wp2_with fail
    obtain ⟨W2, hW2⟩ : ∃ W2, wr.setCell ⟨w.heap.size, s, none⟩ (.int .i64 0) = W2 := ⟨_, rfl⟩
    have t2 : Turned [w.heap.size] wr W2 := by rw [← hW2]; exact Turned.of_grown (grown_set wr w.heap.size s _) _ (fun q hq => by cases hq; simp)
    have fD : W2.heap[w.heap.size]? = some (.cells (((List.replicate k (-1 : Int)).set s 0).map (Value.int .i64)).toArray 3 (0, 0)) := by rw [← hW2, heap_setCell_same wr w.heap.size s _ 3 _ y1, List.map_set]; simp only [List.setIfInBounds_toArray]
    have fDist := t2.keep fDist (by simp)
    have s2 : Hid (W2.heap.size = wr.heap.size) := hidden (by rw [← hW2]; exact World.size_setCell ..)
    have tA := tA.trans t2 (by simp)
    rw [hW2]
    clear hW2 y1 y3 y4 y5 e4 f4 e3 t2
    refine (show Code.wp Try.prog (Code.seq (headS (dropS 10 (b14 Try.f14))) (dropS 11 (b14 Try.f14))) _ _ _ from wp_seq ?_)
    conv => arg 2; whnf
    go_wp2_with fail
    obtain ⟨W3, hW3⟩ : ∃ W3, (W2.alloc (.cells #[.int .i64 (s : Int)] 3)).alloc (.cells #[.slice (some ⟨W2.heap.size, 0, none⟩) 1 1] 22) = W3 := ⟨_, rfl⟩
    have t3 : Turned [] W2 W3 := by rw [← hW3]; exact Turned.trans (Turned.of_grown (World.grownBy_alloc _ _ none) [] (fun k hk => by cases hk)) (Turned.of_grown (World.grownBy_alloc _ _ none) [] (fun k hk => by cases hk)) (by simp)
    have fq0 : W3.heap[W2.heap.size]? = some (.cells #[.int .i64 (s : Int)] 3 (0, 0)) := by rw [← hW3, heap_alloc_old _ _ (by simp)]; exact heap_alloc_new W2 _
    have fQ : W3.heap[W2.heap.size + 1]? = some (.cells #[.slice (some ⟨W2.heap.size, 0, none⟩) 1 1] 22 (0, 0)) := by rw [← hW3]; exact heap_two W2 _ _
    have s3 : Hid (W3.heap.size = W2.heap.size + 2) := hidden (by rw [← hW3]; simp)
    have fD := t3.keep fD (by simp)
    have fDist := t3.keep fDist (by simp)
    have tA := tA.trans t3 (by simp)
    rw [hW3]
    clear hW3 t3
    refine (show Code.wp Try.prog (Code.seq (headS (dropS 11 (b14 Try.f14))) (dropS 12 (b14 Try.f14))) _ _ _ from wp_seq ?_)
    conv => arg 2; whnf
    go_wp2_with fail
    obtain ⟨W4, hW4⟩ : ∃ W4, W3.alloc (.cells #[.func (.func 18) #[] #[.pointer (some ⟨w.heap.size + 1, 0, none⟩), .pointer (some ⟨W2.heap.size + 1, 0, none⟩)]] 65) = W4 := ⟨_, rfl⟩
    have t4 : Turned [] W3 W4 := by rw [← hW4]; exact Turned.of_grown (World.grownBy_alloc _ _ none) [] (fun k hk => by cases hk)
    have fR : W4.heap[W3.heap.size]? = some (.cells #[.func (.func 18) #[] #[.pointer (some ⟨w.heap.size + 1, 0, none⟩), .pointer (some ⟨W2.heap.size + 1, 0, none⟩)]] 65 (0, 0)) := by rw [← hW4]; exact heap_alloc_new W3 _
    have s4 : Hid (W4.heap.size = W3.heap.size + 1) := hidden (by rw [← hW4]; simp)
    have fD := t4.keep fD (by simp)
    have fDist := t4.keep fDist (by simp)
    have fq0 := t4.keep fq0 (by simp)
    have fQ := t4.keep fQ (by simp)
    have tA := tA.trans t4 (by simp)
    rw [hW4]
    clear hW4 t4
    obtain ⟨Z2, hZ2, hmk2⟩ := make22 items (by omega)
    have HZ2 := hidden hZ2
    clear hZ2
    have hb4 := tA.keep hbh.out (by simp; omega)
    have e5 := cell_of_row W4 bh 5 _ _ _ hb4
    simp only [List.getElem?_toArray, List.getElem?_cons_zero, List.getElem?_cons_succ] at e5
    refine (show Code.wp Try.prog (Code.seq (headS (dropS 12 (b14 Try.f14))) (dropS 13 (b14 Try.f14))) _ _ _ from wp_seq ?_)
    conv => arg 2; whnf
    go_wp2_with fail
    clear hmk2
    obtain ⟨W5, hW5⟩ : ∃ W5, (W4.alloc (.cells Z2 3)).alloc (.cells #[.slice (some ⟨W4.heap.size, 0, none⟩) items items] 22) = W5 := ⟨_, rfl⟩
    have t5 : Turned [] W4 W5 := by rw [← hW5]; exact Turned.trans (Turned.of_grown (World.grownBy_alloc _ _ none) [] (fun k hk => by cases hk)) (Turned.of_grown (World.grownBy_alloc _ _ none) [] (fun k hk => by cases hk)) (by simp)
    have fTW : W5.heap[W4.heap.size]? = some (.cells Z2 3 (0, 0)) := by rw [← hW5, heap_alloc_old _ _ (by simp)]; exact heap_alloc_new W4 _
    have fTWb : W5.heap[W4.heap.size + 1]? = some (.cells #[.slice (some ⟨W4.heap.size, 0, none⟩) items items] 22 (0, 0)) := by rw [← hW5]; exact heap_two W4 _ _
    have s5 : Hid (W5.heap.size = W4.heap.size + 2) := hidden (by rw [← hW5]; simp)
    have fD := t5.keep fD (by simp)
    have fDist := t5.keep fDist (by simp)
    have fq0 := t5.keep fq0 (by simp)
    have fQ := t5.keep fQ (by simp)
    have fR := t5.keep fR (by simp)
    have tA := tA.trans t5 (by simp)
    have hb5 := t5.keep hb4 (by simp)
    rw [hW5]
    clear hW5 t5 e5 hb4
    have e6 := cell_of_row W5 bh 5 _ _ _ hb5
    simp only [List.getElem?_toArray, List.getElem?_cons_zero, List.getElem?_cons_succ] at e6
    refine (show Code.wp Try.prog (Code.seq (headS (dropS 13 (b14 Try.f14))) (dropS 14 (b14 Try.f14))) _ _ _ from wp_seq ?_)
    conv => arg 2; whnf
    go_wp2_with fail
    refine (newMinTree_any items W5 (by omega)).mono ?_
    rintro e w6 ⟨⟨z6, g6, rfl, hz6, ho6⟩, hb6⟩
    go_wp2_with fail
    have hzz : z6 = z := PowFor.unique hz6 hPz.out
    subst hzz
    have hNN' := hNN.out
    rw [← hNN'] at ho6 ⊢
    clear hNN'
    obtain ⟨W7, hW7⟩ : ∃ W7, w6.alloc (.cells #[.int .i64 z6, .slice (some ⟨g6, 0, none⟩) N N] 67) = W7 := ⟨_, rfl⟩
    have t6 : Turned [] W5 w6 := Turned.of_below hb6 (Nat.le_refl _)
    have t7 : Turned [] w6 W7 := by rw [← hW7]; exact Turned.of_grown (World.grownBy_alloc _ _ none) [] (fun k hk => by cases hk)
    have fP : W7.heap[w6.heap.size]? = some (.cells #[.int .i64 z6, .slice (some ⟨g6, 0, none⟩) N N] 67 (0, 0)) := by rw [← hW7]; exact heap_alloc_new w6 _
    have s7 : Hid (W7.heap.size = w6.heap.size + 1) := hidden (by rw [← hW7]; simp)
    have lg6 := ho6.lt g6 rfl
    have fg := t7.keep (own_row_heap ho6) (by simp)
    have t67 := t6.trans t7 (by simp)
    have tA := tA.trans t67 (by simp)
    have FX : Hid (W7.heap[w.heap.size]? = some (.cells (((List.replicate k (-1 : Int)).set s 0).map (Value.int .i64)).toArray 3 (0, 0)) ∧ W7.heap[w.heap.size + 1]? = some (.cells #[.slice (some ⟨w.heap.size, 0, none⟩) k k] 22 (0, 0)) ∧ W7.heap[W2.heap.size]? = some (.cells #[.int .i64 (s : Int)] 3 (0, 0)) ∧ W7.heap[W2.heap.size + 1]? = some (.cells #[.slice (some ⟨W2.heap.size, 0, none⟩) 1 1] 22 (0, 0)) ∧ W7.heap[W3.heap.size]? = some (.cells #[.func (.func 18) #[] #[.pointer (some ⟨w.heap.size + 1, 0, none⟩), .pointer (some ⟨W2.heap.size + 1, 0, none⟩)]] 65 (0, 0)) ∧ W7.heap[W4.heap.size]? = some (.cells ((List.replicate items (0 : Int)).map (Value.int .i64)).toArray 3 (0, 0)) ∧ W7.heap[W4.heap.size + 1]? = some (.cells #[.slice (some ⟨W4.heap.size, 0, none⟩) items items] 22 (0, 0)) ∧ W7.heap[w6.heap.size]? = some (.cells #[.int .i64 z6, .slice (some ⟨g6, 0, none⟩) N N] 67 (0, 0))) := hidden ⟨t67.keep fD (by simp), t67.keep fDist (by simp), t67.keep fq0 (by simp), t67.keep fQ (by simp), t67.keep fR (by simp), by rw [← HZ2.out]; exact t67.keep fTW (by simp), t67.keep fTWb (by simp), fP⟩
    have ORD : Hid (w.heap.size + 1 < W2.heap.size ∧ W2.heap.size + 1 < W3.heap.size ∧ W3.heap.size < W4.heap.size ∧ W4.heap.size + 1 < g6 ∧ g6 < w6.heap.size) := hidden ⟨by have := s2.out; omega, by have := s3.out; omega, by have := s4.out; omega, by have := s5.out; omega, lg6.2⟩
    have TA := hidden tA
    obtain ⟨Hh, hzH⟩ : ∃ Hh, z6 = 2 ^ Hh := by obtain ⟨Hh, h1, _⟩ := hPz.out; exact ⟨Hh, h1⟩
    have P0 : Hid (PAt3 Hh z6 items N g6 L.ws 0 W7 W7) := hidden ⟨List.replicate N 9223372036854775807, fg, by rw [hNN.out, hzH]; exact IsMin.fresh Hh _, fun x hx => by omega, fun x _ hx => iAt_replicate _ _ _ (by have := hNN.out; omega), Turned.refl _ _⟩
    rw [hW7]
    clear hW7 t6 t7 t67 tA fD fDist fq0 fQ fR fTW fTWb fP fg ho6 hb6 hb5 e6 lg6 hz6 HZ2
    have HZH := hidden hzH
    clear hzH
    refine (show Code.wp Try.prog (Code.seq (headS (dropS 14 (b14 Try.f14))) (dropS 15 (b14 Try.f14))) _ _ _ from wp_seq ?_)
    conv => arg 2; whnf
    have hTW := hidden (fun (W : World) (hW : Below w.heap.size w W) => (hTabW.out.below hW))
    have bw7 : Below w.heap.size w W7 := TA.out.below (Nat.le_refl _) (by simp)
    have d0 := cell_of_row W7 bWrb 0 _ _ _ (hTW.out W7 bw7).at_
    simp only [List.getElem?_toArray, List.getElem?_cons_zero] at d0
    clear bw7
    go_wp2_with fail
    go_loopw [202] (fun v wx => ∃ j : Nat, v = .int .i64 j ∧ j ≤ items ∧ Hid (PAt3 Hh z6 items N g6 L.ws j W7 wx)) (fun v _ => items - (intOf v).toNat)
    case atStart => exact ⟨0, rfl, Nat.zero_le _, P0⟩
    case round =>
      clear P0 d0
      obtain ⟨j, rfl, hj, hP⟩ := hrel
      obtain ⟨arr, p1, p2, p3, p4, p5⟩ := hP.out
      obtain ⟨o1, o2, o3, o4, o5⟩ := ORD.out
      have tB : Turned (w.heap.size :: [g6]) w wr := Turned.trans (S := w.heap.size :: [g6]) ⟨TA.out.os, TA.out.tape, TA.out.output, TA.out.size, fun q hq hne => TA.out.block q hq (by simp at hne ⊢; exact hne.1)⟩ p5 (by simp)
      have bwr : Below w.heap.size w wr := tB.below (Nat.le_refl _) (by simp; omega)
      by_cases hlt : (j : Int) < items
      case neg =>
        have hjn : j = items := by omega
        subst hjn
        go_wp2_with fail
        obtain ⟨x1, x2, x3, x4, x5, x6, x7, x8⟩ := FX.out
        have hI0 := hI.out ⟨k, z6, N, j, w.heap.size, 0, 0, 0, 0, 0, 0, 0, 0, 0, 0, 0, 0⟩ rfl rfl rfl rfl rfl
        have hHH : Hh = H := by
          have h1 := HZH.out
          have h2 : z6 = 2 ^ H := hI0.hz
          exact (Nat.pow_right_inj (show 1 < 2 by decide)).1 (show 2 ^ Hh = 2 ^ H by omega)
        subst hHH
        refine mid2_any h k z6 N j Hh m s bx bA bTree bWrb bWr bRdb bRd w.heap.size (w.heap.size + 1) w.heap.size W2.heap.size (W2.heap.size + 1) W3.heap.size (W4.heap.size + 1) W4.heap.size w6.heap.size g6 L arr w00 wr (hidden (h00.out.trans (bwr.mono h00.out.size))) (hidden h00.out.size) (hidden bwr.size) hn hs hz hNl (hidden ((bwr.block _ (hI0.tabR.lt.1)).trans hTabR.out)) (hidden ⟨p5.keep x1 (by simp; omega), p5.keep x2 (by simp; omega), p5.keep x3 (by simp; omega), p5.keep x4 (by simp; omega), p5.keep x5 (by simp; omega), p5.keep x6 (by simp; omega), p5.keep x7 (by simp; omega), p1, p5.keep x8 (by simp; omega), by rw [p2.len, ← HZH.out, ← hNN.out], by omega⟩) (hidden ⟨p2, fun x hx => ?_, fun x hx hxz => p4 x hx hxz⟩) (hidden fun K a1 a2 a3 a4 a5 => (hI.out K a1 a2 a3 a4 a5).below (by rw [a5]; exact bwr)) hon _ _ _ _ _ _ _ _ _ _ _ _ _ _ _ _ _ _ _ _ _ _ _ _ _ _ _ _ _ _ _ _ _ _ _ _ _ _ _ _ _ _ _ _ _ _ _ _ _ _ _ _ _ _ _ _ _ _ _ _ _ _ _ _ _ _ _ _ _ _ _ _ _ _ _ _ _ _ _ _ _ _ _ _ _ _ _ _ _ _ _ _ _ _ _ _ _ _ _ _ _ _ _ _ _ _ _ _ _ _ _ _ _ _ _ _ _ _ _ _ _ _ _ _ _ _ _ _ _ _ _ _ _ _ _ _ _ _ _ _ _ _ _ _ _ _ _ _ _ _ _ _ _ _ _ _ _ _ _ _ _ _ _ _ _ _ _ _ _ _ _ _ _ _ _ _ _ _ _ _ _ _ _ _ _ _ _ _ _ _ _ _ _ _ _ _ _ _ _ _ _ _ _ _ _ _ _ _ _ _ _ _ _ _ _ _ _ _ _ _ _ _ _ _ _ _ _ _ _ _ _ _ _ _ _ _ _ _ _ _ _ _ _ _ _ _ _ _ _ _ _ _ _ _ _ _ _ _ _ _ _ _ _ _ _ _ _ _ _ _ _ _ _ _ _ _ _ _ _ _ _ _ _ _ _ _ _ _ _ _ _ _ _ _ _ _ _ _ _ _ _ _ _ _ _ _ _ _ _ _ _ _ _ _ _ _ _ _ _ _ _ _ _ _ _ _ _ _ _ _ _ _ _ _ _ _ _ _ _ _ _ _ _ _ _
        rw [p3 x hx, iAt_rep0]
        rfl
      obtain ⟨v, hv, a, cap, gr, rfl, ha, hg, hlen, hcells⟩ := (hTW.out wr bwr).row j (by omega)
      have bj : (0 : Int) ≤ j := by omega
      by_cases hpos : (0 : Int) < (L.ws j).length
      case neg =>
        have NEXT : Hid (PAt3 Hh z6 items N g6 L.ws (j + 1) W7 wr) := hidden ⟨arr, p1, p2, fun x hx => by
          by_cases e : x = j
          · subst e
            rw [p4 x (Nat.le_refl _) (by obtain ⟨_, _, h1, _⟩ := hPz.out; omega), List.getElem?_eq_none (by omega)]
            rfl
          · exact p3 x (by omega), fun x hx hxz => p4 x (by omega) hxz, p5⟩
        have hpn : ¬ (0 < (L.ws j).length) := by omega
        clear p1 p2 p3 p4 p5 tB bwr
        go_wp2_with fail
        exact ⟨⟨j + 1, by go_num, by omega, NEXT⟩, by simp [intOf]; omega⟩
      have hposN : 0 < (L.ws j).length := by omega
      obtain rfl := ha hposN
      obtain ⟨y, hy⟩ : ∃ y, (L.ws j)[0]? = some y := ⟨_, List.getElem?_eq_getElem hposN⟩
      have hc0 := (hcells 0 y hy).1
      rw [Nat.zero_mul] at hc0
      have fP := p5.keep FX.out.2.2.2.2.2.2.2 (by simp; omega)
      have KEEP : Hid (∀ W', Turned [] wr W' → W'.cell? ⟨w6.heap.size, 0, none⟩ = some (.int .i64 z6) ∧ W'.cell? ⟨w6.heap.size, 1, none⟩ = some (.slice (some ⟨g6, 0, none⟩) N N) ∧ W'.cell? ⟨gr, 0, none⟩ = some (.int .i64 y.1) ∧ Turned [] wr W') := hidden fun W' hW => by
        have h1 := hW.keep fP (by simp)
        refine ⟨cell_of_row W' _ 0 _ _ _ h1, cell_of_row W' _ 1 _ _ _ h1, ?_, hW⟩
        rw [World.cell?_of_block (a := ⟨gr, 0, none⟩) (hW.block gr (by have := bwr.size; omega) (by simp))]
        exact hc0
      have OP : Hid (∀ W', Turned [] wr W' → W'.ownsRow 0 3 1 (.slice (some ⟨g6, 0, none⟩) N N) N (arr.map (Value.int .i64))) := hidden fun W' hW => own_of_heap (hW.keep p1 (by simp)) (by rw [p2.len, ← HZH.out, ← hNN.out]) (Nat.zero_le _) (by unfold maxLen; omega)
      have NEXT : Hid (∀ W' w', Turned [] wr W' → SetDone 0 g6 z6 N Hh j y.1 arr w' → W'.grownBy w' (some g6) → PAt3 Hh z6 items N g6 L.ws (j + 1) W7 w') := hidden fun W' w' hW hsd hg => by
        obtain ⟨arr', h1, h2, h3⟩ := hsd
        refine ⟨arr', own_row_heap h3, h1, fun x hx => ?_, fun x hx hxz => ?_, (p5.trans hW (by simp)).trans (Turned.of_grown hg [g6] (fun q hq => by cases hq; simp)) (by simp)⟩
        · rw [h2 x (by obtain ⟨_, _, h4, _⟩ := hPz.out; omega)]
          by_cases e : x = j
          · subst e; rw [if_pos rfl, hy]; rfl
          · rw [if_neg e]; exact p3 x (by omega)
        · rw [h2 x hxz, if_neg (by omega)]
          exact p4 x (by omega) hxz
      have HM := hidden p2
      have hjz : (j : Int) < z6 := by obtain ⟨_, _, h4, _⟩ := hPz.out; omega
      clear p1 p2 p3 p4 p5 tB bwr hc0 hcells fP
      go_wp2_with fail
      refine wp_region_noPanic ?_
      refine wp_region_held_drew (S := fun W' => W'.cell? ⟨w6.heap.size, 0, none⟩ = some (.int .i64 z6) ∧ W'.cell? ⟨w6.heap.size, 1, none⟩ = some (.slice (some ⟨g6, 0, none⟩) N N) ∧ W'.cell? ⟨gr, 0, none⟩ = some (.int .i64 y.1) ∧ True) (by kernel_rfl) (by have h1 := KEEP.out wr.drew (Turned.drew (Turned.refl _ _)); exact ⟨h1.1, h1.2.1, h1.2.2.1, trivial⟩) (fun hHeld => ?_)
      refine wpAnyH_take (i := 0) (v := (.agg #[.int .i64 z6, .slice (some ⟨g6, 0, none⟩) N N])) rfl (by kernel_rfl) (by kernel_rfl) (by kernel_rfl) (fun _ _ _ h => h) (Or.inl ⟨by rfl, ?_⟩) hHeld ?_
      · rintro w ⟨r0, r1, r2, r3⟩
        go_simp
      try simp only [Act.put, List.getElem_toArray, List.getElem_cons_succ, List.getElem_cons_zero, List.setIfInBounds_toArray, List.set_cons_zero, List.set_cons_succ]
      refine wpAnyH_take (i := 1) (v := (.int .i64 j)) rfl (by kernel_rfl) (by kernel_rfl) (by kernel_rfl) (fun _ _ _ h => h) (Or.inl ⟨by rfl, ?_⟩) hHeld ?_
      · rintro w ⟨r0, r1, r2, r3⟩
        go_simp
      try simp only [Act.put, List.getElem_toArray, List.getElem_cons_succ, List.getElem_cons_zero, List.setIfInBounds_toArray, List.set_cons_zero, List.set_cons_succ]
      refine wpAnyH_take (i := 2) (v := (.slice (some ⟨gr, 0, none⟩) (L.ws j).length cap)) rfl (by kernel_rfl) (by kernel_rfl) (by kernel_rfl) (fun _ _ _ h => h) (Or.inl ⟨by rfl, ?_⟩) hHeld ?_
      · rintro w ⟨r0, r1, r2, r3⟩
        go_simp
      try simp only [Act.put, List.getElem_toArray, List.getElem_cons_succ, List.getElem_cons_zero, List.setIfInBounds_toArray, List.set_cons_zero, List.set_cons_succ]
      refine wpAnyH_take (i := 3) (v := (.pointer (some ⟨gr, 0, none⟩))) rfl (by kernel_rfl) (by kernel_rfl) (by kernel_rfl) (fun _ _ _ h => h) (Or.inl ⟨by rfl, ?_⟩) hHeld ?_
      · rintro w ⟨r0, r1, r2, r3⟩
        go_simp
      try simp only [Act.put, List.getElem_toArray, List.getElem_cons_succ, List.getElem_cons_zero, List.setIfInBounds_toArray, List.set_cons_zero, List.set_cons_succ]
      refine wpAnyH_take (i := 4) (v := (.pointer (some ⟨gr, 0, none⟩))) rfl (by kernel_rfl) (by kernel_rfl) (by kernel_rfl) (fun _ _ _ h => h) (Or.inl ⟨by rfl, ?_⟩) hHeld ?_
      · rintro w ⟨r0, r1, r2, r3⟩
        go_simp
      try simp only [Act.put, List.getElem_toArray, List.getElem_cons_succ, List.getElem_cons_zero, List.setIfInBounds_toArray, List.set_cons_zero, List.set_cons_succ]
      refine wpAnyH_take (i := 5) (v := (.int .i64 y.1)) rfl (by kernel_rfl) (by kernel_rfl) (by kernel_rfl) (fun _ _ _ h => h) (Or.inl ⟨by rfl, ?_⟩) hHeld ?_
      · rintro w ⟨r0, r1, r2, r3⟩
        go_simp
      try simp only [Act.put, List.getElem_toArray, List.getElem_cons_succ, List.getElem_cons_zero, List.setIfInBounds_toArray, List.set_cons_zero, List.set_cons_succ]
      refine wpAnyH_ready (rs := [6]) (by kernel_rfl) (by simp) (AllReadyH.cons rfl (fun K hK => ?_) AllReadyH.nil)
      go_simp
      refine (set_any 0 g6 z6 N Hh j y.1 arr _ HZH hNN (by omega) (by omega) HM (hidden (OP.out _ (Turned.drew (Turned.refl _ _))))).mono ?_
      rintro e w8 ⟨rfl, hsd, hg8⟩
      have N8 := hidden (NEXT.out _ w8 (Turned.drew (Turned.refl _ _)) hsd hg8)
      have hg9 : Turned [g6] wr w8 := (Turned.drew (Turned.refl [g6] wr)).trans (Turned.of_grown hg8 [g6] (fun q hq => by cases hq; simp)) (by simp)
      have h8 : w8.cell? ⟨w6.heap.size, 0, none⟩ = some (.int .i64 z6) ∧ w8.cell? ⟨w6.heap.size, 1, none⟩ = some (.slice (some ⟨g6, 0, none⟩) N N) ∧ w8.cell? ⟨gr, 0, none⟩ = some (.int .i64 y.1) ∧ True := by
        have hk := KEEP.out wr (Turned.refl _ _)
        have hl6 : w6.heap.size < wr.heap.size := by
          have h9 := FX.out.2.2.2.2.2.2.2
          have h10 := (Array.getElem?_eq_some_iff.1 h9).1
          have h11 := hP.out
          obtain ⟨_, _, _, _, _, h12⟩ := h11
          have := h12.size
          omega
        have hlr : gr < wr.heap.size := by
          have h11 := hP.out
          obtain ⟨_, _, _, _, _, h12⟩ := h11
          have := h12.size
          have := TA.out.size
          omega
        exact ⟨(World.cell?_of_block (a := ⟨w6.heap.size, 0, none⟩) (hg9.block _ hl6 (by simp; omega))).trans hk.1, (World.cell?_of_block (a := ⟨w6.heap.size, 1, none⟩) (hg9.block _ hl6 (by simp; omega))).trans hk.2.1, (World.cell?_of_block (a := ⟨gr, 0, none⟩) (hg9.block _ hlr (by simp; omega))).trans hk.2.2.1, trivial⟩
      dsimp only
      refine hK.out _ _ h8 (fun hHeld2 => ?_)
      clear hK hHeld hHeld2 hsd hg8 hg9 h8
      try simp only [Act.put, List.getElem_toArray, List.getElem_cons_succ, List.getElem_cons_zero, List.setIfInBounds_toArray, List.set_cons_zero, List.set_cons_succ]
      refine wpAnyH_done (by kernel_rfl) ?_ _
      refine NoPanic.normal ?_
      clear KEEP OP NEXT
      go_wp2_with fail
      exact ⟨⟨j + 1, by go_num, by omega, N8⟩, by simp [intOf]; omega⟩

end Go.Proofs.Qxb6612201a
