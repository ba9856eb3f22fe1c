/-
  WALK: shortestCycle's levels, and all that follows.
-/
import Derived.Test.Qxb6612201aEndW
import Derived.Test.Qxb6612201aLevM
namespace Go.Proofs.Qxb6612201a
open Go.RowKit Go.Shelf
set_option linter.unusedVariables false
set_option linter.unusedSimpArgs false

/-- What the levels' part finds. -/
structure LevIn (E : Nat → Nat → Prop) (n s bx bA bDist bD : Nat) (ds : List Int) (ww rr : Nat → List (Int × Int × Int)) (w : World) : Prop where
  acc : AccTab w.heap.size w bx bA n ww rr
  len : ∀ v, v < n → (ww v).length ≤ 1024 ∧ (rr v).length ≤ 1024
  box : w.heap[bDist]? = some (.cells #[.slice (some ⟨bD, 0, none⟩) n n] 22 (0, 0))
  dist : w.heap[bD]? = some (.cells (ds.map (Value.int .i64)).toArray 3 (0, 0))
  dl : ds.length = n
  small : ∀ v, dAt ds v < n
  edge : ∀ u v, u < n → v < n → u ≠ v → (Prec (ww u) (rr u) (ww v) (rr v) ↔ E u v)
  inn : ∀ u v, E u v → u < n ∧ v < n
  irr : ∀ v, ¬ E v v
  isD : IsDist (fun a b => E b a) s (dAt ds)
  on : ∃ v, E s v ∧ 0 ≤ dAt ds v

def LevAt (ds : List Int) (w0 : World) (k : Nat) (a : Option Addr) (N c : Nat) (w : World) : Prop := ∃ (vals : List Value) (lv : List (List Nat)), LevMem w0 (.slice a N c) vals lv w ∧ LevIs ds k lv ∧ lv.length ≤ 1024 ∧ vals.length = N

theorem own_form0' {w : World} {B e sz n : Nat} {v : Value} {xs : List Value} (h : w.ownsRow B e sz v (n + 1) xs) : ∃ g cap, v = .slice (some ⟨g, 0, none⟩) (n + 1) cap := by
  rcases h.2 with ⟨_, h0⟩ | ⟨g, cap, cur, hv, _⟩
  · omega
  · exact ⟨g, cap, hv⟩
theorem asc_len (k : Nat) : ∀ (l : List Nat) (a : Nat), a ≤ k → l.Pairwise (· < ·) → (∀ x ∈ l, a ≤ x ∧ x < k) → l.length + a ≤ k
  | [], a, ha, _, _ => by simp; exact ha
  | y :: l, a, ha, hp, hm => by
    obtain ⟨h1, h2⟩ := List.pairwise_cons.1 hp
    have hy := hm y (List.mem_cons_self ..)
    have := asc_len k l (y + 1) (by omega) h2 (fun x hx => ⟨h1 x hx, (hm x (List.mem_cons_of_mem _ hx)).2⟩)
    simp
    omega
theorem own_sl {w : World} {B e sz n : Nat} {v : Value} {xs : List Value} (h : w.ownsRow B e sz v n xs) : ∃ a cap, v = .slice a n cap := by
  rcases h.2 with ⟨h0, h1⟩ | ⟨g, c, cur, hv, _⟩
  · subst h1; exact ⟨none, 0, h0⟩
  · exact ⟨_, c, hv⟩
theorem own_some {w : World} {B e sz n c : Nat} {a : Option Addr} {xs : List Value} (h : w.ownsRow B e sz (.slice a n c) n xs) (h0 : 0 < n) : ∃ g, a = some ⟨g, 0, none⟩ := by
  rcases h.2 with ⟨_, h1⟩ | ⟨g, c, cur, hv, _⟩
  · omega
  · simp only [Value.slice.injEq] at hv
    exact ⟨g, hv.1⟩

set_option maxHeartbeats 25600000 in
set_option maxRecDepth 1000000 in
theorem lev_any (E : Nat → Nat → Prop) (n s bx bA bDist bD : Nat) (ds : List Int) (ww rr : Nat → List (Int × Int × Int)) (w00 w : World) (h00 : Hid (Below w00.heap.size w00 w)) (hn : (n : Int) ≤ 1024) (hs : (s : Int) < n) (hI : Hid (LevIn E n s bx bA bDist bD ds ww rr w))
    (u0 u2 u3 u4 u5 u7 u8 u9 u10 u11 u12 u13 u14 u16 u17 u18 u19 u20 u21 u22 u23 u24 u25 u26 u27 u28 u29 u30 u31 u32 u33 u34 u35 u36 u37 u38 u39 u40 u41 u42 u43 u44 u45 u46 u47 u48 u49 u50 u51 u52 u53 u54 u55 u56 u57 u58 u59 u60 u61 u62 u63 u64 u65 u66 u67 u68 u69 u70 u71 u72 u73 u74 u75 u76 u77 u78 u79 u80 u81 u82 u83 u84 u85 u86 u87 u88 u89 u90 u91 u92 u93 u94 u95 u96 u97 u98 u99 u100 u101 u102 u103 u104 u105 u106 u107 u108 u109 u110 u111 u112 u113 u114 u115 u116 u117 u118 u119 u120 u121 u122 u123 u124 u125 u126 u127 u128 u129 u130 u131 u132 u133 u134 u135 u136 u137 u138 u139 u140 u141 u142 u143 u144 u145 u146 u147 u148 u149 u150 u151 u152 u153 u154 u155 u156 u157 u158 u159 u160 u161 u162 u163 u164 u165 u166 u167 u168 u169 u170 u171 u172 u173 u174 u175 u176 u177 u178 u179 u180 u181 u182 u183 u184 u185 u186 u187 u188 u189 u190 u191 u192 u193 u194 u195 u196 u197 u198 u199 u200 u201 u202 u203 u204 u205 u206 u207 u208 u209 u210 u211 u212 u213 u214 u215 u216 u217 u218 u219 u220 u221 u222 u223 u224 u225 u226 u227 u228 u229 u230 u231 u232 u233 u234 u235 u236 u237 u238 u239 u240 u241 u242 u243 u244 u245 u246 u247 u248 u249 u250 u251 u252 u253 u254 u255 u256 u257 u258 u259 u260 u261 u262 u263 u264 u265 u266 u267 u268 u269 u270 u271 u272 u273 u274 u275 u276 u277 u278 u279 u280 u281 u282 u283 u284 u285 u286 u287 u288 u289 u290 u291 u292 u293 u294 u295 u296 u297 u298 u299 u300 u301 u302 u303 u304 u305 u306 u307 u308 u309 u310 u311 u312 u313 u314 u315 u316 u317 u318 u319 u320 u321 u322 u323 u324 u325 u326 u327 u328 u329 u330 u331 u332 u333 u334 u335 u336 u337 u338 u339 u340 u341 u342 u343 u344 u345 u346 u347 u348 u349 u350 u351 u352 u353 u354 : Value) :
    Code.wp Try.prog (dropS 20 (b14 Try.f14)) (bodyPost Try.prog Try.f14 fun e w' => EndPost E s ds w00 e w') { tmps := #[u0, .int .i64 s, u2, u3, u4, u5, .pointer (some ⟨bx, 0, none⟩), u7, u8, u9, u10, u11, u12, u13, u14, .pointer (some ⟨bDist, 0, none⟩), u16, u17, u18, u19, u20, u21, u22, u23, u24, u25, u26, u27, u28, u29, u30, u31, u32, u33, u34, u35, u36, u37, u38, u39, u40, u41, u42, u43, u44, u45, u46, u47, u48, u49, u50, u51, u52, u53, u54, u55, u56, u57, u58, u59, u60, u61, u62, u63, u64, u65, u66, u67, u68, u69, u70, u71, u72, u73, u74, u75, u76, u77, u78, u79, u80, u81, u82, u83, u84, u85, u86, u87, u88, u89, u90, u91, u92, u93, u94, u95, u96, u97, u98, u99, u100, u101, u102, u103, u104, u105, u106, u107, u108, u109, u110, u111, u112, u113, u114, u115, u116, u117, u118, u119, u120, u121, u122, u123, u124, u125, u126, u127, u128, u129, u130, u131, u132, u133, u134, u135, u136, u137, u138, u139, u140, u141, u142, u143, u144, u145, u146, u147, u148, u149, u150, u151, u152, u153, u154, u155, u156, u157, u158, u159, u160, u161, u162, u163, u164, u165, u166, u167, u168, u169, u170, u171, u172, u173, u174, u175, u176, u177, u178, u179, u180, u181, u182, u183, u184, u185, u186, u187, u188, u189, u190, u191, u192, u193, u194, u195, u196, u197, u198, u199, u200, u201, u202, u203, u204, u205, u206, u207, u208, u209, u210, u211, u212, u213, u214, u215, u216, u217, u218, u219, u220, u221, u222, u223, u224, u225, u226, u227, u228, u229, u230, u231, u232, u233, u234, u235, u236, u237, u238, u239, u240, u241, u242, u243, u244, u245, u246, u247, u248, u249, u250, u251, u252, u253, u254, u255, u256, u257, u258, u259, u260, u261, u262, u263, u264, u265, u266, u267, u268, u269, u270, u271, u272, u273, u274, u275, u276, u277, u278, u279, u280, u281, u282, u283, u284, u285, u286, u287, u288, u289, u290, u291, u292, u293, u294, u295, u296, u297, u298, u299, u300, u301, u302, u303, u304, u305, u306, u307, u308, u309, u310, u311, u312, u313, u314, u315, u316, u317, u318, u319, u320, u321, u322, u323, u324, u325, u326, u327, u328, u329, u330, u331, u332, u333, u334, u335, u336, u337, u338, u339, u340, u341, u342, u343, u344, u345, u346, u347, u348, u349, u350, u351, u352, u353, u354], defers := [] } w := by
  refine (show Code.wp Try.prog (Code.seq (headS (dropS 20 (b14 Try.f14))) (dropS 21 (b14 Try.f14))) _ _ _ from wp_seq ?_)
  conv => arg 2; whnf
  go_wp2_with fail
  refine (show Code.wp Try.prog (Code.seq (headS (dropS 21 (b14 Try.f14))) (dropS 22 (b14 Try.f14))) _ _ _ from wp_seq ?_)
  conv => arg 2; whnf
  obtain ⟨i3, hi3, z30, z31, z32⟩ := info_parts Try.info3
  obtain ⟨i22, hi22, y30, y31, y32⟩ := info_parts Try.info22
  have c0 := cell_of_row w bDist 0 _ _ _ hI.out.box
  simp only [List.getElem?_toArray, List.getElem?_cons_zero] at c0
  have S0 : Hid (LevAt ds w 0 none 0 0 w) := hidden ⟨[], [], LevMem.nil w, ⟨fun d l hd => by simp at hd, fun d l hd => by simp at hd, fun v hv => by omega⟩, by simp, rfl⟩
  go_wp2_with fail
  go_loopw [33, 286] (fun v33 v286 wr => ∃ (k : Nat) (a : Option Addr) (N c : Nat), v286 = .int .i64 k ∧ k ≤ n ∧ v33 = .slice a N c ∧ N ≤ 1024 ∧ Hid (LevAt ds w k a N c wr)) (fun _ v286 _ => n - (intOf v286).toNat)
  case atStart => exact ⟨0, none, 0, 0, rfl, Nat.zero_le _, rfl, Nat.zero_le _, S0⟩
  case round =>
    clear S0
    obtain ⟨k, a, N, c, rfl, hk, rfl, hN, hL⟩ := hrel
    by_cases hlt : (k : Int) < n
    case neg =>
      have hkn : k = n := by omega
      subst hkn
      go_wp2_with fail
      obtain ⟨vals, lv, hM, hV, hl, hvl⟩ := hL.out
      have hsl : s < k := by omega
      have hs0 : dAt ds s < lv.length := hV.all s hsl
      rw [dist_self hI.out.isD] at hs0
      have hpos : 0 < N := by have := hM.len; omega
      subst hvl
      obtain ⟨bL, rfl⟩ := own_some hM.out hpos
      have hget : ∀ d, d < vals.length → lv[d]? = some (lv.getD d []) := fun d hd => by
        have h1 : d < lv.length := by rw [hM.len]; exact hd
        rw [List.getD_eq_getElem?_getD, List.getElem?_eq_getElem h1]
        rfl
      have hbw := hM.below
      have h1 := hI.out.acc.below hbw
      refine end_any E k s bx bA bDist bD bL vals.length c ds ww rr (fun d => lv.getD d []) w00 wr (hidden (h00.out.trans (hbw.mono h00.out.size))) hn hs (by omega) (hidden ?_) _ _ _ _ _ _ _ _ _ _ _ _ _ _ _ _ _ _ _ _ _ _ _ _ _ _ _ _ _ _ _ _ _ _ _ _ _ _ _ _ _ _ _ _ _ _ _ _ _ _ _ _ _ _ _ _ _ _ _ _ _ _ _ _ _ _ _ _ _ _ _ _ _ _ _ _ _ _ _ _ _ _ _ _ _ _ _ _ _ _ _ _ _ _ _ _ _ _ _ _ _ _ _ _ _ _ _ _ _ _ _ _ _ _ _ _ _ _ _ _ _ _ _ _ _ _ _ _ _ _ _ _ _ _ _ _ _ _ _ _ _ _ _ _ _ _ _ _ _ _ _ _ _ _ _ _ _ _ _ _ _ _ _ _ _ _ _ _ _ _ _ _ _ _ _ _ _ _ _ _ _ _ _ _ _ _ _ _ _ _ _ _ _ _ _ _ _ _ _ _ _ _ _ _ _ _ _ _ _ _ _ _ _ _ _ _ _ _ _ _ _ _ _ _ _ _ _ _ _ _ _ _ _ _ _ _ _ _ _ _ _ _ _ _ _ _ _ _ _ _ _ _ _ _ _ _ _ _ _ _ _ _ _ _ _ _ _ _ _ _ _ _ _ _ _ _ _ _ _ _ _ _ _ _ _ _ _ _ _ _ _ _ _ _ _ _ _ _ _ _ _ _ _ _ _ _ _ _ _ _ _ _ _ _ _ _ _ _ _ _ _ _ _ _ _ _ _ _ _ _ _ _ _ _ _ _ _ _ _ _ _ _ _ _ _ _ _ _ _ _ _
      exact
      { acc := ⟨h1.at_, ⟨Nat.lt_of_lt_of_le h1.lt.1 hbw.size, Nat.lt_of_lt_of_le h1.lt.2 hbw.size⟩, fun v hv => by
          obtain ⟨A, a1, a2, a3⟩ := h1.row v hv
          exact ⟨A, a1, a2, a3.mono hbw.size⟩⟩
        len := hI.out.len
        box := (hbw.block bDist (Array.getElem?_eq_some_iff.1 hI.out.box).1).trans hI.out.box
        dist := (hbw.block bD (Array.getElem?_eq_some_iff.1 hI.out.dist).1).trans hI.out.dist
        dl := hI.out.dl
        levs := ⟨(hM.out.lt bL rfl).2, fun d hd => by
          obtain ⟨v, hv⟩ : ∃ v, vals[d]? = some v := ⟨_, List.getElem?_eq_getElem hd⟩
          have hin := hM.inn d v _ hv (hget d hd)
          obtain ⟨va, vc, rfl⟩ := own_sl hin
          refine ⟨va, vc, (va.map Addr.block).getD 0, (hM.out.cellAt d (by omega)).trans hv, ?_⟩
          refine ⟨fun h0 => ?_, fun h0 => ?_, ?_, fun j x hx => ?_⟩
          · obtain ⟨g, rfl⟩ := own_some hin h0
            rfl
          · obtain ⟨g, rfl⟩ := own_some hin h0
            exact (hin.lt g rfl).2
          · have h2 := asc_len k _ 0 (by omega) (hV.up d _ (hget d hd)) (fun x hx => ⟨Nat.zero_le _, ((hV.mem d _ (hget d hd) x).1 hx).1⟩)
            omega
          · have hjl := (List.getElem?_eq_some_iff.1 hx).1
            obtain ⟨g, rfl⟩ := own_some hin (by omega)
            show wr.cell? ⟨g, j, none⟩ = _
            rw [hin.cellAt j (by omega), List.getElem?_map, hx]
            rfl⟩
        isLev := fun d hd => ⟨hV.up d _ (hget d hd), hV.mem d _ (hget d hd)⟩
        top := fun v => by
          by_cases hv : v < k
          · have := hV.all v hv; have := hM.len; omega
          · have : dAt ds v = -1 := by
              unfold dAt
              rw [List.getD_eq_getElem?_getD, List.getElem?_eq_none (by rw [hI.out.dl]; omega)]
              rfl
            omega
        edge := hI.out.edge
        inn := hI.out.inn
        irr := hI.out.irr
        isD := hI.out.isD
        on := hI.out.on }
    obtain ⟨vals, lv, hM, hV, hl, hvl⟩ := hL.out
    have q1 := (hM.below.cell (p := ⟨bD, k, none⟩) (Array.getElem?_eq_some_iff.1 hI.out.dist).1).trans (cell_of_row w bD k _ _ _ hI.out.dist)
    rw [dist_get _ k (by rw [hI.out.dl]; omega)] at q1
    have b0 : (0 : Int) ≤ k := by omega
    by_cases hneg : dAt ds k < 0
    · have NEXT : Hid (LevAt ds w (k + 1) a N c wr) := hidden ⟨vals, lv, hM, hV.skip hneg, hl, hvl⟩
      clear hM hV hvl
      go_wp2_with fail
      exact ⟨⟨k + 1, a, N, c, by go_num, by omega, rfl, hN, NEXT⟩, by simp [intOf]; omega⟩
    obtain ⟨dd, hdd⟩ : ∃ dd : Nat, dAt ds k = dd := ⟨(dAt ds k).toNat, by omega⟩
    have hddn : (dd : Int) < n := by have := hI.out.small k; omega
    rw [hdd] at q1
    have HDD := hidden hdd
    clear hM hV hvl hl hdd hneg vals lv
    go_wp2_with fail
    go_loopw [33] (fun v33 wx => ∃ (a : Option Addr) (N c : Nat), v33 = .slice a N c ∧ N ≤ 1024 ∧ Hid (LevAt ds w k a N c wx)) (fun v33 _ => match v33 with | .slice _ N _ => dd + 1 - N | _ => 0)
    case atStart => exact ⟨a, N, c, rfl, hN, hL⟩
    case round =>
      clear q1 hL hN
      obtain ⟨a, N, c, rfl, hN, hL⟩ := hrel
      by_cases hle : (N : Int) ≤ dd
      · obtain ⟨vals, lv, hM, hV, hl, hvl⟩ := hL.out
        have N1 := cell_one_new wr (.slice none 0 0) 22
        have OW := hidden hM.out
        have hszw := hM.below.size
        subst hvl
        have HML := hidden (And.intro hM (And.intro hV hl))
        clear hM hV hl
        go_wp2_with (
          at_builtin
          refine wpList_append_own_at _ rfl _ _ 73 rfl w.heap.size 22 i22 (.slice none 0 0) 1 24 Try.underlying73 hi22 y30 y31 y32 rfl (by decide) _ _ _ rfl (OW.out.alloc _) ⟨wr.heap.size, 0, none⟩ 1 1 [.slice none 0 0] rfl rfl N1 (by simp [Value.oneCell']) (by unfold maxLen; omega) (by omega) (by simp; omega) ?_
          intro v' w3 hown' hgrow hnil hloc
          obtain ⟨g', cap', rfl⟩ := own_form0' hown'
          have H3 := hidden (And.intro hown' hgrow)
          clear hown' hgrow hnil hloc)
        obtain ⟨hown', hgrow⟩ := H3.out
        obtain ⟨hM, hV, hl⟩ := HML.out
        have hal : Turned [] wr (wr.alloc (.cells #[.slice none 0 0] 22)) := Turned.of_grown (World.grownBy_alloc wr _ none) [] (fun k hk => by cases hk)
        refine ⟨⟨_, _, _, rfl, by have := hM.len; omega, hidden ⟨_, _, (hM.kept hal).more hgrow hown', hV.more, by simp; have := hM.len; omega, by simp⟩⟩, ?_⟩
        simp
        omega
      · obtain ⟨vals, lv, hM, hV, hl, hvl⟩ := hL.out
        have hpos : 0 < N := by omega
        subst hvl
        obtain ⟨bL, rfl⟩ := own_some hM.out hpos
        obtain ⟨v, hv⟩ : ∃ v, vals[dd]? = some v := ⟨_, List.getElem?_eq_getElem (by omega)⟩
        obtain ⟨l, hl2⟩ : ∃ l, lv[dd]? = some l := ⟨_, List.getElem?_eq_getElem (by have := hM.len; omega)⟩
        have e1 := (hM.out.cellAt dd (by omega)).trans hv
        have hin := hM.inn dd v l hv hl2
        obtain ⟨va, vc, rfl⟩ := own_sl hin
        have bd : (0 : Int) ≤ dd := by omega
        have N1 := cell_one_new wr (.int .i64 (k : Int)) 3
        have hszw := hM.below.size
        have hll : l.length ≤ 1024 := by
          have h1 := (hV.mem dd l hl2)
          have h2 := asc_len k l 0 (by omega) (hV.up dd l hl2) (fun x hx => ⟨Nat.zero_le _, ((h1 x).1 hx).1⟩)
          omega
        have HIN := hidden hin
        have HML := hidden (And.intro hM (And.intro hV (And.intro hl (And.intro hv hl2))))
        clear hM hV hl hv hl2 hin
        go_wp2_with (
          at_builtin
          refine wpList_append_own_at _ rfl _ _ 22 rfl w.heap.size 3 i3 (.int .i64 0) 1 8 Try.underlying22 hi3 z30 z31 z32 rfl (by decide) _ _ _ rfl (HIN.out.alloc _) ⟨wr.heap.size, 0, none⟩ 1 1 [.int .i64 (k : Int)] rfl rfl N1 (by simp [Value.oneCell']) (by unfold maxLen; omega) (by omega) (by simp; omega) ?_
          intro v' w3 hown' hgrow hnil hloc
          have hloc2 : v'.ownBlock = (Value.slice va l.length vc).ownBlock ∨ ∃ k, v'.ownBlock = some k ∧ wr.heap.size ≤ k := by
            rcases hloc with h | h
            · exact .inl h
            · exact .inr ⟨_, h, by simp⟩
          have hgr : wr.grownBy w3 (Value.slice va l.length vc).ownBlock := (World.grownBy_alloc wr (.cells #[.int .i64 (k : Int)] 3) _).trans hgrow
          obtain ⟨g', cap', rfl⟩ := own_form0' hown'
          have PU := hidden (HML.out.1.push HML.out.2.2.2.1 HML.out.2.2.2.2 hgr hown' hloc2)
          have f1 := PU.out.2.1
          have f2 := PU.out.2.2
          clear hown' hgrow hnil hloc hloc2 hgr)
        obtain ⟨hM, hV, hl, hv, hl2⟩ := HML.out
        refine ⟨⟨k + 1, _, _, _, by go_num, by omega, rfl, hN, hidden ⟨_, _, PU.out.1, hV.push HDD.out hl2, by rw [List.length_set]; exact hl, by rw [List.length_set]⟩⟩, by simp [intOf]; omega⟩


end Go.Proofs.Qxb6612201a
