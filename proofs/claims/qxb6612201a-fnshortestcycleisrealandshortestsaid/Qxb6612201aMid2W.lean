/-
  WALK: shortestCycle's laying of the rest of the search's memory, and all that follows.
-/
import Derived.Test.Qxb6612201aBfsW
namespace Go.Proofs.Qxb6612201a
open Go.RowKit Go.Shelf
set_option linter.unusedVariables false
set_option linter.unusedSimpArgs false

theorem make22 (c : Nat) (hc : (c : Int) ≤ 1000000) : ∃ Z0 : Array Value, Z0 = ((List.replicate c (0 : Int)).map (Value.int .i64)).toArray ∧ ∀ W : World, (Instr.makeSlice 22 (.int .i64 (c : Int)) (.int .i64 (c : Int))).run Try.prog W = .ok (.slice (some ⟨W.heap.size, 0, none⟩) c c) (W.alloc (.cells Z0 3)) := by
  obtain ⟨i3, hi3, z30, z31, z32⟩ := info_parts Try.info3
  refine ⟨madeCells #[Value.int .i64 0] c, ?_, fun W => ?_⟩
  · apply Array.ext'
    rw [toList_madeCells_one]
    simp
  · have h := run_make (P := Try.prog) W 22 3 i3 _ Try.underlying22 hi3 z30 .i64 .i64 (c : Int) (c : Int) (by omega) (by omega) (by rw [z32]; omega) (by omega)
    rw [z31, Nat.mul_one, show (Value.int IntKind.i64 0).cells = #[.int .i64 0] from rfl, Int.toNat_natCast] at h
    exact h

/-- What was laid up to here. -/
structure LaidQ (n z N items B bDist bD q0 bQ bReach bTWb bTW bP g s : Nat) (arr : List Int) (w : World) : Prop where
  d : w.heap[bD]? = some (.cells (((List.replicate n (-1 : Int)).set s 0).map (Value.int .i64)).toArray 3 (0, 0))
  dist : w.heap[bDist]? = some (.cells #[.slice (some ⟨bD, 0, none⟩) n n] 22 (0, 0))
  q : w.heap[q0]? = some (.cells #[.int .i64 (s : Int)] 3 (0, 0))
  qb : w.heap[bQ]? = some (.cells #[.slice (some ⟨q0, 0, none⟩) 1 1] 22 (0, 0))
  reach : w.heap[bReach]? = some (.cells #[.func (.func 18) #[] #[.pointer (some ⟨bDist, 0, none⟩), .pointer (some ⟨bQ, 0, none⟩)]] 65 (0, 0))
  tw : w.heap[bTW]? = some (.cells ((List.replicate items (0 : Int)).map (Value.int .i64)).toArray 3 (0, 0))
  twb : w.heap[bTWb]? = some (.cells #[.slice (some ⟨bTW, 0, none⟩) items items] 22 (0, 0))
  p : w.heap[g]? = some (.cells (arr.map (Value.int .i64)).toArray 3 (0, 0))
  pb : w.heap[bP]? = some (.cells #[.int .i64 z, .slice (some ⟨g, 0, none⟩) N N] 67 (0, 0))
  pl : arr.length = N
  ord : B ≤ bD ∧ bD < bDist ∧ bDist < q0 ∧ q0 < bQ ∧ bQ < bReach ∧ bReach < bTW ∧ bTW < bTWb ∧ bTWb < g ∧ g < bP

theorem LaidQ.kept {n z N items B bDist bD q0 bQ bReach bTWb bTW bP g s : Nat} {arr : List Int} {w w' : World} (h : LaidQ n z N items B bDist bD q0 bQ bReach bTWb bTW bP g s arr w) (ht : Turned [] w w') : LaidQ n z N items B bDist bD q0 bQ bReach bTWb bTW bP g s arr w' :=
  ⟨ht.keep h.d (by simp), ht.keep h.dist (by simp), ht.keep h.q (by simp), ht.keep h.qb (by simp), ht.keep h.reach (by simp), ht.keep h.tw (by simp), ht.keep h.twb (by simp), ht.keep h.p (by simp), ht.keep h.pb (by simp), h.pl, h.ord⟩

theorem iAt_rep0 (n x : Nat) : iAt (List.replicate n (0 : Int)) x = 0 := by
  unfold iAt
  rw [List.getD_eq_getElem?_getD, List.getElem?_replicate]
  split <;> rfl

theorem Taken.fresh (N : Nat) (rows : Nat → List (Int × Int)) (ds : List Int) : Taken N rows (List.replicate N 0) ds :=
  ⟨by simp, fun q _ => by rw [iAt_rep0]; exact Int.le_refl _, fun q _ => by rw [iAt_rep0]; omega, fun q _ k x hk _ => by rw [iAt_rep0] at hk; omega⟩

set_option maxHeartbeats 25600000 in
set_option maxRecDepth 1000000 in
theorem mid2_any (h : Hist) (n z N items H m s bx bA bTree bWrb bWr bRdb bRd B bDist bD q0 bQ bReach bTWb bTW bP g : Nat) (L : Lists) (arr : List Int) (w00 w : World) (h00 : Hid (Below w00.heap.size w00 w)) (hB00 : Hid (w00.heap.size ≤ B)) (hBw : Hid (B ≤ w.heap.size)) (hn : (n : Int) ≤ 1024) (hs : (s : Int) < n) (hz : (z : Int) ≤ 200000) (hNl : (N : Int) ≤ 400000) (hTabR : Hid (w.heap[bRdb]? = some (.cells #[.slice (some ⟨bRd, 0, none⟩) N N] 47 (0, 0))))
    (hLaid : Hid (LaidQ n z N items B bDist bD q0 bQ bReach bTWb bTW bP g s arr w)) (hPend : Hid (Pend H z items L.ws (List.replicate items 0) arr))
    (hI : Hid (∀ K : Kon, K.n = n → K.z = z → K.N = N → K.items = items → K.B = B → BIn h K H m bx bA bTree bWrb bWr bRdb bRd L w)) (hon : Hid (∀ d : Nat → Int, IsDist (fun a b => h.Edge m b a) s d → ∃ v, h.Edge m s v ∧ 0 ≤ d v))
    (u0 u2 u3 u4 u9 u10 u11 u12 u13 u14 u16 u21 u22 u23 u24 u25 u26 u27 u28 u29 u30 u31 u32 u33 u34 u35 u36 u37 u38 u39 u40 u41 u42 u43 u44 u45 u46 u47 u48 u49 u50 u51 u52 u53 u54 u55 u56 u57 u58 u59 u60 u61 u62 u63 u64 u65 u66 u67 u68 u69 u70 u71 u72 u73 u74 u75 u76 u77 u78 u79 u80 u81 u82 u83 u84 u85 u86 u87 u88 u89 u90 u91 u92 u93 u94 u95 u96 u97 u98 u99 u100 u101 u102 u103 u104 u105 u106 u107 u108 u109 u110 u111 u112 u113 u114 u115 u116 u117 u118 u119 u120 u121 u122 u123 u124 u125 u126 u127 u128 u129 u130 u131 u132 u133 u134 u135 u136 u137 u138 u139 u140 u141 u142 u143 u144 u145 u146 u147 u148 u149 u150 u151 u152 u153 u154 u155 u156 u157 u158 u159 u160 u161 u162 u163 u164 u165 u166 u167 u168 u169 u170 u171 u172 u173 u174 u175 u176 u177 u178 u179 u180 u181 u182 u183 u184 u185 u186 u187 u188 u189 u190 u191 u192 u193 u194 u195 u196 u197 u198 u199 u200 u201 u202 u203 u204 u205 u206 u207 u208 u209 u210 u211 u212 u213 u214 u215 u216 u217 u218 u219 u220 u221 u222 u223 u224 u225 u226 u227 u228 u229 u230 u231 u232 u233 u234 u235 u236 u237 u238 u239 u240 u241 u242 u243 u244 u245 u246 u247 u248 u249 u250 u251 u252 u253 u254 u255 u256 u257 u258 u259 u260 u261 u262 u263 u264 u265 u266 u267 u268 u269 u270 u271 u272 u273 u274 u275 u276 u277 u278 u279 u280 u281 u282 u283 u284 u285 u286 u287 u288 u289 u290 u291 u292 u293 u294 u295 u296 u297 u298 u299 u300 u301 u302 u303 u304 u305 u306 u307 u308 u309 u310 u311 u312 u313 u314 u315 u316 u317 u318 u319 u320 u321 u322 u323 u324 u325 u326 u327 u328 u329 u330 u331 u332 u333 u334 u335 u336 u337 u338 u339 u340 u341 u342 u343 u344 u345 u346 u347 u348 u349 u350 u351 u352 u353 u354 : Value) :
    Code.wp Try.prog (dropS 15 (b14 Try.f14)) (bodyPost Try.prog Try.f14 fun e w' => ∃ ds : List Int, IsDist (fun a b => h.Edge m b a) s (dAt ds) ∧ EndPost (h.Edge m) s ds w00 e w') { tmps := #[u0, .int .i64 s, u2, u3, u4, .pointer (some ⟨bTree, 0, none⟩), .pointer (some ⟨bx, 0, none⟩), .pointer (some ⟨bWrb, 0, none⟩), .pointer (some ⟨bRdb, 0, none⟩), u9, u10, u11, u12, u13, u14, .pointer (some ⟨bDist, 0, none⟩), u16, .pointer (some ⟨bQ, 0, none⟩), .pointer (some ⟨bReach, 0, none⟩), .pointer (some ⟨bTWb, 0, none⟩), .pointer (some ⟨bP, 0, none⟩), u21, u22, u23, u24, u25, u26, u27, u28, u29, u30, u31, u32, u33, u34, u35, u36, u37, u38, u39, u40, u41, u42, u43, u44, u45, u46, u47, u48, u49, u50, u51, u52, u53, u54, u55, u56, u57, u58, u59, u60, u61, u62, u63, u64, u65, u66, u67, u68, u69, u70, u71, u72, u73, u74, u75, u76, u77, u78, u79, u80, u81, u82, u83, u84, u85, u86, u87, u88, u89, u90, u91, u92, u93, u94, u95, u96, u97, u98, u99, u100, u101, u102, u103, u104, u105, u106, u107, u108, u109, u110, u111, u112, u113, u114, u115, u116, u117, u118, u119, u120, u121, u122, u123, u124, u125, u126, u127, u128, u129, u130, u131, u132, u133, u134, u135, u136, u137, u138, u139, u140, u141, u142, u143, u144, u145, u146, u147, u148, u149, u150, u151, u152, u153, u154, u155, u156, u157, u158, u159, u160, u161, u162, u163, u164, u165, u166, u167, u168, u169, u170, u171, u172, u173, u174, u175, u176, u177, u178, u179, u180, u181, u182, u183, u184, u185, u186, u187, u188, u189, u190, u191, u192, u193, u194, u195, u196, u197, u198, u199, u200, u201, u202, u203, u204, u205, u206, u207, u208, u209, u210, u211, u212, u213, u214, u215, u216, u217, u218, u219, u220, u221, u222, u223, u224, u225, u226, u227, u228, u229, u230, u231, u232, u233, u234, u235, u236, u237, u238, u239, u240, u241, u242, u243, u244, u245, u246, u247, u248, u249, u250, u251, u252, u253, u254, u255, u256, u257, u258, u259, u260, u261, u262, u263, u264, u265, u266, u267, u268, u269, u270, u271, u272, u273, u274, u275, u276, u277, u278, u279, u280, u281, u282, u283, u284, u285, u286, u287, u288, u289, u290, u291, u292, u293, u294, u295, u296, u297, u298, u299, u300, u301, u302, u303, u304, u305, u306, u307, u308, u309, u310, u311, u312, u313, u314, u315, u316, u317, u318, u319, u320, u321, u322, u323, u324, u325, u326, u327, u328, u329, u330, u331, u332, u333, u334, u335, u336, u337, u338, u339, u340, u341, u342, u343, u344, u345, u346, u347, u348, u349, u350, u351, u352, u353, u354], defers := [] } w := by
  refine (show Code.wp Try.prog (Code.seq (headS (dropS 15 (b14 Try.f14))) (dropS 16 (b14 Try.f14))) _ _ _ from wp_seq ?_)
  conv => arg 2; whnf
  have hmf : ∀ (fn : Fn) (first cap : Array Value) (w : World), (Instr.makeFunc fn first cap).run Try.prog w = .ok (.func fn first cap) w := fun _ _ _ _ => rfl
  go_wp2_with fail
  obtain ⟨W1, hW1⟩ : ∃ W1, w.alloc (.cells #[.slice none 0 0] 22) = W1 := ⟨_, rfl⟩
  have t1 : Turned [] w W1 := by rw [← hW1]; exact Turned.of_grown (World.grownBy_alloc w _ none) [] (fun k hk => by cases hk)
  have fF : W1.heap[w.heap.size]? = some (.cells #[.slice none 0 0] 22 (0, 0)) := by rw [← hW1]; exact heap_alloc_new w _
  have s1 : Hid (W1.heap.size = w.heap.size + 1) := hidden (by rw [← hW1]; simp)
  have L1 := hidden (hLaid.out.kept t1)
  rw [hW1]
  clear hW1
  have T1 := hidden t1
  have hT1 := t1.keep hTabR.out (by simp)
  clear t1
  refine (show Code.wp Try.prog (Code.seq (headS (dropS 16 (b14 Try.f14))) (dropS 17 (b14 Try.f14))) _ _ _ from wp_seq ?_)
  conv => arg 2; whnf
  go_wp2_with fail
  obtain ⟨Z1, hZ1, hmk1⟩ := make22 N (by omega)
  have HZ1 := hidden hZ1
  clear hZ1
  have e1 := cell_of_row W1 bRdb 0 _ _ _ hT1
  simp only [List.getElem?_toArray, List.getElem?_cons_zero] at e1
  refine (show Code.wp Try.prog (Code.seq (headS (dropS 17 (b14 Try.f14))) (dropS 18 (b14 Try.f14))) _ _ _ from wp_seq ?_)
  conv => arg 2; whnf
  go_wp2_with fail
  clear hmk1 e1
  obtain ⟨W2, hW2⟩ : ∃ W2, (W1.alloc (.cells Z1 3)).alloc (.cells #[.slice (some ⟨W1.heap.size, 0, none⟩) N N] 22) = W2 := ⟨_, rfl⟩
  have t2 : Turned [] W1 W2 := by
    rw [← hW2]
    exact Turned.trans (Turned.of_grown (World.grownBy_alloc W1 _ none) [] (fun k hk => by cases hk)) (Turned.of_grown (World.grownBy_alloc _ _ none) [] (fun k hk => by cases hk)) (by simp)
  have fTR : W2.heap[W1.heap.size]? = some (.cells Z1 3 (0, 0)) := by rw [← hW2, heap_alloc_old _ _ (by simp)]; exact heap_alloc_new W1 _
  have fTRb : W2.heap[W1.heap.size + 1]? = some (.cells #[.slice (some ⟨W1.heap.size, 0, none⟩) N N] 22 (0, 0)) := by rw [← hW2]; exact heap_two W1 _ _
  rw [hW2]
  clear hW2
  have L2 := hidden (L1.out.kept t2)
  have fF2 := t2.keep fF (by simp)
  have t12 := T1.out.trans t2 (by simp)
  refine (show Code.wp Try.prog (Code.seq (headS (dropS 18 (b14 Try.f14))) (dropS 19 (b14 Try.f14))) _ _ _ from wp_seq ?_)
  conv => arg 2; whnf
  go_wp2_with fail
  rw [HZ1.out] at fTR
  have lP : bP < w.heap.size := (Array.getElem?_eq_some_iff.1 hLaid.out.pb).1
  obtain ⟨o1, o2, o3, o4, o5, o6, o7, o8, o9⟩ := hLaid.out.ord
  have hs1 := s1.out
  have hsl : s < (List.replicate n (-1 : Int)).length := by simp; omega
  have hun := unmet_set (List.replicate n (-1)) s 0 hsl (by rw [dAt_replicate]; decide) (by decide)
  rw [unmet_replicate] at hun
  have bel : Below B w W2 := t12.below hBw.out (by simp)
  have l2 := L2.out
  refine bfs_any h ⟨n, z, N, items, B, bDist, bD, q0, bQ, bReach, bTWb, bTW, bP, g, w.heap.size, W1.heap.size + 1, W1.heap.size⟩ H m s bx bA bTree bWrb bWr bRdb bRd L w00 W2 ⟨(List.replicate n (-1)).set s 0, [s], q0, 0, 1, List.replicate items 0, arr, .slice none 0 0, [], List.replicate N 0⟩ (hidden (h00.out.trans (t12.below (h00.out.size) (by simp)))) hn hs hz (hidden ⟨o1, o2, o3, o4, o5, o6, o7, o8, o9, lP, by simp only; omega, by simp⟩) hB00 (hidden ((hI.out _ rfl rfl rfl rfl rfl).below bel)) (hidden ?_) hon _ _ _ _ _ _ _ _ _ _ _ _ _ _ _ _ _ _ _ _ _ _ _ _ _ _ _ _ _ _ _ _ _ _ _ _ _ _ _ _ _ _ _ _ _ _ _ _ _ _ _ _ _ _ _ _ _ _ _ _ _ _ _ _ _ _ _ _ _ _ _ _ _ _ _ _ _ _ _ _ _ _ _ _ _ _ _ _ _ _ _ _ _ _ _ _ _ _ _ _ _ _ _ _ _ _ _ _ _ _ _ _ _ _ _ _ _ _ _ _ _ _ _ _ _ _ _ _ _ _ _ _ _ _ _ _ _ _ _ _ _ _ _ _ _ _ _ _ _ _ _ _ _ _ _ _ _ _ _ _ _ _ _ _ _ _ _ _ _ _ _ _ _ _ _ _ _ _ _ _ _ _ _ _ _ _ _ _ _ _ _ _ _ _ _ _ _ _ _ _ _ _ _ _ _ _ _ _ _ _ _ _ _ _ _ _ _ _ _ _ _ _ _ _ _ _ _ _ _ _ _ _ _ _ _ _ _ _ _ _ _ _ _ _ _ _ _ _ _ _ _ _ _ _ _ _ _ _ _ _ _ _ _ _ _ _ _ _ _ _ _ _ _ _ _ _ _ _ _ _ _ _ _ _ _ _ _ _ _ _ _ _ _ _ _ _ _ _ _ _ _ _ _ _ _ _ _ _ _ _ _ _ _ _ _ _ _ _ _ _ _ _ _ _ _ _ _ _ _ _ _ _ _ _ _ _ _ _ _ _ _ _ _ _ _ _ _ _ _
  exact
  { mem :=
    { q := ⟨l2.dist, l2.d, by simp, l2.qb, ⟨_, l2.q, by simp, (by decide : 1 ≤ maxLen), by simp, by simp⟩, by simp only; omega⟩
      reach := l2.reach
      twb := l2.twb
      tw := l2.tw
      twl := by simp
      pb := l2.pb
      p := l2.p
      pl := l2.pl
      fb := fF2
      fo := World.ownsRow_nil _ _ _ _
      trb := fTRb
      tr := fTR
      trl := by simp
      qbn := .inl rfl
      fbn := fun k hk => by cases hk }
    bfs := Bfs.start _ s n (by omega)
    cnt := by simp only [List.length_cons, List.length_nil]; omega
    len := by simp
    tw := Taken.fresh _ _ _
    tr := Taken.fresh _ _ _
    pend := hPend.out
    below := Below.refl _ _ }

end Go.Proofs.Qxb6612201a
