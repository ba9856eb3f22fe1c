/-
  WALK: shortestCycle's search, and all that follows.
-/
import Derived.Test.Qxb6612201aLevW
import Derived.Test.Qxb6612201aWriteW
import Derived.Test.Qxb6612201aTold
namespace Go.Proofs.Qxb6612201a
open Go.RowKit Go.Shelf
set_option linter.unusedVariables false
set_option linter.unusedSimpArgs false

theorem Try.enters21 : ∀ args w, (callFunc 21 args).run Try.prog w = .ok (.enter 21 args) w := enters_of Try.func21 (by kernel_rfl) rfl
theorem Try.enters23 : ∀ args w, (callFunc 23 args).run Try.prog w = .ok (.enter 23 args) w := enters_of Try.func23 (by kernel_rfl) rfl

/-- 'queue = queue[1:]', wherever the rest is said to begin. -/
theorem Mem.popped2 {K : Kon} {M : St} {w : World} {r : List Nat} {qo' qc' : Nat} (hK : K.Ok) (h : Mem K M w) (hq : OwnsQ w M.qb qo' qc' r) :
    Mem K { M with q := r, qo := qo', qc := qc' } (w.setCell ⟨K.bQ, 0, none⟩ (.slice (some ⟨M.qb, qo', none⟩) r.length qc')) ∧ Turned [K.bQ] w (w.setCell ⟨K.bQ, 0, none⟩ (.slice (some ⟨M.qb, qo', none⟩) r.length qc')) := by
  have ht : Turned [K.bQ] w (w.setCell ⟨K.bQ, 0, none⟩ (.slice (some ⟨M.qb, qo', none⟩) r.length qc')) := Turned.of_grown (grown_set w K.bQ 0 _) _ (fun k hk => by cases hk; simp)
  obtain ⟨k1, k2, k3, k4, k5, k6, k7, k8, k9, k10, k11, k12⟩ := hK
  have hqb := h.qbn
  have ne : ∀ x, x ≠ K.bQ → x ∉ [K.bQ] := fun x a => by simp [a]
  exact ⟨
  { q := ⟨ht.keep h.q.box (ne _ (by omega)), ht.keep h.q.dist (ne _ (by omega)), h.q.len, by
      rw [heap_setCell_same w K.bQ 0 _ 22 _ h.q.que]
      simp, by
      obtain ⟨cur, a1, a2⟩ := hq
      exact ⟨cur, ht.keep a1 (ne M.qb (by omega)), a2⟩, h.q.ne⟩
    reach := ht.keep h.reach (ne _ (by omega))
    twb := ht.keep h.twb (ne _ (by omega))
    tw := ht.keep h.tw (ne _ (by omega))
    twl := h.twl
    pb := ht.keep h.pb (ne _ (by omega))
    p := ht.keep h.p (ne _ (by omega))
    pl := h.pl
    fb := ht.keep h.fb (ne _ (by omega))
    fo := own_turned h.fo ht (fun k hk => by have := h.fbn k hk; exact ne _ (by omega))
    trb := ht.keep h.trb (ne _ (by omega))
    tr := ht.keep h.tr (ne _ (by omega))
    trl := h.trl
    qbn := h.qbn
    fbn := h.fbn }, ht⟩

/-- How much is left of the search. -/
def bfsMu (K : Kon) (w : World) : Nat :=
  (match w.cell? ⟨K.bQ, 0, none⟩ with | some (.slice _ l _) => l | _ => 0) + (match w.heap[K.bD]? with | some (.cells c _ _) => c.toList.countP (fun v => decide (intOf v < 0)) | _ => 0)

theorem bfsMu_eq {K : Kon} {M : St} {w : World} (h : Mem K M w) : bfsMu K w = M.q.length + unmet M.ds := by
  unfold bfsMu
  rw [cell_of_row w K.bQ 0 _ _ _ h.q.que, h.q.dist]
  simp only [List.getElem?_toArray, List.getElem?_cons_zero]
  congr 1
  unfold unmet
  rw [List.countP_map]
  rfl

/-- What the search finds, and does not turn. -/
structure BIn (h : Hist) (K : Kon) (H m bx bA bTree bWrb bWr bRdb bRd : Nat) (L : Lists) (w : World) : Prop where
  acc : AccTab K.B w bx bA K.n L.wr L.rd
  tabW : Tab K.B w bWrb bWr K.items L.ws
  tabR : Tab K.B w bRdb bRd K.N L.rs
  tree : w.heap[bTree]? = some (.cells #[.int .i64 K.z] 44 (0, 0)) ∧ bTree < K.B
  told : Told h H m L
  sane : Sane h m K.n K.items
  hz : K.z = 2 ^ H
  hN : K.N = 2 * K.z
  iz : K.items ≤ K.z
  lm : m ≤ 1024

theorem BIn.below {h : Hist} {K : Kon} {H m bx bA bTree bWrb bWr bRdb bRd : Nat} {L : Lists} {w w' : World} (I : BIn h K H m bx bA bTree bWrb bWr bRdb bRd L w) (hb : Below K.B w w') : BIn h K H m bx bA bTree bWrb bWr bRdb bRd L w' :=
  { I with acc := I.acc.below hb, tabW := I.tabW.below hb, tabR := I.tabR.below hb, tree := ⟨(hb.block bTree I.tree.2).trans I.tree.1, I.tree.2⟩ }

/-- Between rounds. -/
structure BAt (h : Hist) (K : Kon) (H m s : Nat) (L : Lists) (W : World) (M : St) (P : Nat → Prop) (w : World) : Prop where
  mem : Mem K M w
  bfs : Bfs (fun a b => h.Edge m b a) s M.ds M.q P
  cnt : M.q.length + unmet M.ds ≤ K.n
  len : M.ds.length = K.n
  tw : Taken K.items L.ws M.tw M.ds
  tr : Taken K.N L.rs M.tr M.ds
  pend : Pend H K.z K.items L.ws M.tw M.arr
  below : Below K.B W w

/-- One of u's writes is done. -/
def DoneE (H : Nat) (L : Lists) (ds : List Int) (e : Int × Int × Int) : Prop := ∀ x : Nat, e.1 = x → DoneW L.ws e.2.2 ds x ∧ ∀ q, 1 ≤ q → Under H q x → ∀ y ∈ L.rs q, y.1 < e.2.2 → 0 ≤ dAt ds y.2.toNat
def DoneR (L : Lists) (ds : List Int) (r : Int × Int × Int) : Prop := ∀ x : Nat, r.1 ≤ x → (x : Int) < r.2.1 → DoneW L.ws r.2.2 ds x

theorem DoneE.more {H : Nat} {L : Lists} {ds ds' : List Int} {e : Int × Int × Int} (h : DoneE H L ds e) (hm : More ds ds') : DoneE H L ds' e := fun x hx => ⟨(h x hx).1.more hm, fun q h1 h2 y hy hb => hm _ ((h x hx).2 q h1 h2 y hy hb)⟩
theorem DoneR.more {L : Lists} {ds ds' : List Int} {r : Int × Int × Int} (h : DoneR L ds r) (hm : More ds ds') : DoneR L ds' r := fun x h1 h2 => (h x h1 h2).more hm

/-- Within a round: the first i writes and the first j reads of u are done. -/
structure MAt (h : Hist) (K : Kon) (H m s : Nat) (L : Lists) (W : World) (P : Nat → Prop) (u : Nat) (d : Int) (mu i j : Nat) (M : St) (w : World) : Prop where
  mem : Mem K M w
  now : Now (fun a b => h.Edge m b a) K.n mu s P u d M.ds M.q
  tw : Taken K.items L.ws M.tw M.ds
  tr : Taken K.N L.rs M.tr M.ds
  pend : Pend H K.z K.items L.ws M.tw M.arr
  below : Below K.B W w
  doneW : ∀ (k : Nat) (e : Int × Int × Int), k < i → (L.wr u)[k]? = some e → DoneE H L M.ds e
  doneR : ∀ (k : Nat) (r : Int × Int × Int), k < j → (L.rd u)[k]? = some r → DoneR L M.ds r

theorem bodyPost_imp {P : Program} {f : Func} {R R' : Ending → World → Prop} (h : ∀ e w, R e w → R' e w) : ∀ (e : Exit) (a : Act) (w : World), bodyPost P f R e a w → bodyPost P f R' e a w := by
  intro e a w hb
  cases e
  case normal =>
    obtain ⟨h1, v, h2, h3⟩ := hb
    exact ⟨h1, v, h2, h _ _ h3⟩
  case ret =>
    obtain ⟨h1, v, h2, h3⟩ := hb
    exact ⟨h1, v, h2, h _ _ h3⟩
  case panic => exact ⟨hb.1, h _ _ hb.2⟩
  case outgrown => exact h _ _ hb
  all_goals exact (hb : False).elim

set_option maxHeartbeats 25600000 in
set_option maxRecDepth 1000000 in
theorem bfs_any (h : Hist) (K : Kon) (H m s bx bA bTree bWrb bWr bRdb bRd : Nat) (L : Lists) (w00 w : World) (M0 : St) (h00 : Hid (Below w00.heap.size w00 w)) (hn : (K.n : Int) ≤ 1024) (hs : (s : Int) < K.n) (hz : (K.z : Int) ≤ 200000) (hK : Hid K.Ok) (hB00 : Hid (w00.heap.size ≤ K.B)) (hI : Hid (BIn h K H m bx bA bTree bWrb bWr bRdb bRd L w)) (hS : Hid (BAt h K H m s L w M0 (fun _ => False) w)) (hon : Hid (∀ d : Nat → Int, IsDist (fun a b => h.Edge m b a) s d → ∃ v, h.Edge m s v ∧ 0 ≤ d v))
    (u0 u2 u3 u4 u5 u7 u8 u9 u10 u11 u12 u13 u14 u16 u18 u19 u20 u21 u22 u23 u25 u27 u28 u29 u30 u31 u32 u33 u34 u35 u36 u37 u38 u39 u40 u41 u42 u43 u44 u45 u46 u47 u48 u49 u50 u51 u52 u53 u54 u55 u56 u57 u58 u59 u60 u61 u62 u63 u64 u65 u66 u67 u68 u69 u70 u71 u72 u73 u74 u75 u76 u77 u78 u79 u80 u81 u82 u83 u84 u85 u86 u87 u88 u89 u90 u91 u92 u93 u94 u95 u96 u97 u98 u99 u100 u101 u102 u103 u104 u105 u106 u107 u108 u109 u110 u111 u112 u113 u114 u115 u116 u117 u118 u119 u120 u121 u122 u123 u124 u125 u126 u127 u128 u129 u130 u131 u132 u133 u134 u135 u136 u137 u138 u139 u140 u141 u142 u143 u144 u145 u146 u147 u148 u149 u150 u151 u152 u153 u154 u155 u156 u157 u158 u159 u160 u161 u162 u163 u164 u165 u166 u167 u168 u169 u170 u171 u172 u173 u174 u175 u176 u177 u178 u179 u180 u181 u182 u183 u184 u185 u186 u187 u188 u189 u190 u191 u192 u193 u194 u195 u196 u197 u198 u199 u200 u201 u202 u203 u204 u205 u206 u207 u208 u209 u210 u211 u212 u213 u214 u215 u216 u217 u218 u219 u220 u221 u222 u223 u224 u225 u226 u227 u228 u229 u230 u231 u232 u233 u234 u235 u236 u237 u238 u239 u240 u241 u242 u243 u244 u245 u246 u247 u248 u249 u250 u251 u252 u253 u254 u255 u256 u257 u258 u259 u260 u261 u262 u263 u264 u265 u266 u267 u268 u269 u270 u271 u272 u273 u274 u275 u276 u277 u278 u279 u280 u281 u282 u283 u284 u285 u286 u287 u288 u289 u290 u291 u292 u293 u294 u295 u296 u297 u298 u299 u300 u301 u302 u303 u304 u305 u306 u307 u308 u309 u310 u311 u312 u313 u314 u315 u316 u317 u318 u319 u320 u321 u322 u323 u324 u325 u326 u327 u328 u329 u330 u331 u332 u333 u334 u335 u336 u337 u338 u339 u340 u341 u342 u343 u344 u345 u346 u347 u348 u349 u350 u351 u352 u353 u354 : Value) :
    Code.wp Try.prog (dropS 19 (b14 Try.f14)) (bodyPost Try.prog Try.f14 fun e w' => ∃ ds : List Int, IsDist (fun a b => h.Edge m b a) s (dAt ds) ∧ EndPost (h.Edge m) s ds w00 e w') { tmps := #[u0, .int .i64 s, u2, u3, u4, u5, .pointer (some ⟨bx, 0, none⟩), u7, u8, u9, u10, u11, u12, u13, u14, .pointer (some ⟨K.bDist, 0, none⟩), u16, .pointer (some ⟨K.bQ, 0, none⟩), u18, u19, u20, u21, u22, u23, .func (.func 21) #[] #[.pointer (some ⟨K.bP, 0, none⟩), .pointer (some ⟨K.bF, 0, none⟩), .pointer (some ⟨bWrb, 0, none⟩), .pointer (some ⟨K.bTWb, 0, none⟩), .pointer (some ⟨K.bReach, 0, none⟩)], u25, .func (.func 23) #[] #[.pointer (some ⟨bTree, 0, none⟩), .pointer (some ⟨bRdb, 0, none⟩), .pointer (some ⟨K.bTRb, 0, none⟩), .pointer (some ⟨K.bReach, 0, none⟩)], u27, u28, u29, u30, u31, u32, u33, u34, u35, u36, u37, u38, u39, u40, u41, u42, u43, u44, u45, u46, u47, u48, u49, u50, u51, u52, u53, u54, u55, u56, u57, u58, u59, u60, u61, u62, u63, u64, u65, u66, u67, u68, u69, u70, u71, u72, u73, u74, u75, u76, u77, u78, u79, u80, u81, u82, u83, u84, u85, u86, u87, u88, u89, u90, u91, u92, u93, u94, u95, u96, u97, u98, u99, u100, u101, u102, u103, u104, u105, u106, u107, u108, u109, u110, u111, u112, u113, u114, u115, u116, u117, u118, u119, u120, u121, u122, u123, u124, u125, u126, u127, u128, u129, u130, u131, u132, u133, u134, u135, u136, u137, u138, u139, u140, u141, u142, u143, u144, u145, u146, u147, u148, u149, u150, u151, u152, u153, u154, u155, u156, u157, u158, u159, u160, u161, u162, u163, u164, u165, u166, u167, u168, u169, u170, u171, u172, u173, u174, u175, u176, u177, u178, u179, u180, u181, u182, u183, u184, u185, u186, u187, u188, u189, u190, u191, u192, u193, u194, u195, u196, u197, u198, u199, u200, u201, u202, u203, u204, u205, u206, u207, u208, u209, u210, u211, u212, u213, u214, u215, u216, u217, u218, u219, u220, u221, u222, u223, u224, u225, u226, u227, u228, u229, u230, u231, u232, u233, u234, u235, u236, u237, u238, u239, u240, u241, u242, u243, u244, u245, u246, u247, u248, u249, u250, u251, u252, u253, u254, u255, u256, u257, u258, u259, u260, u261, u262, u263, u264, u265, u266, u267, u268, u269, u270, u271, u272, u273, u274, u275, u276, u277, u278, u279, u280, u281, u282, u283, u284, u285, u286, u287, u288, u289, u290, u291, u292, u293, u294, u295, u296, u297, u298, u299, u300, u301, u302, u303, u304, u305, u306, u307, u308, u309, u310, u311, u312, u313, u314, u315, u316, u317, u318, u319, u320, u321, u322, u323, u324, u325, u326, u327, u328, u329, u330, u331, u332, u333, u334, u335, u336, u337, u338, u339, u340, u341, u342, u343, u344, u345, u346, u347, u348, u349, u350, u351, u352, u353, u354], defers := [] } w := by
  refine (show Code.wp Try.prog (Code.seq (headS (dropS 19 (b14 Try.f14))) (dropS 20 (b14 Try.f14))) _ _ _ from wp_seq ?_)
  conv => arg 2; whnf
  go_wp2_with fail
  go_loopw [27] (fun _ wr => ∃ (M : St) (P : Nat → Prop), Hid (BAt h K H m s L w M P wr)) (fun _ wr => bfsMu K wr)
  case atStart => exact ⟨M0, _, hS⟩
  case round =>
    obtain ⟨M, P, hR⟩ := hrel
    have q0 := cell_of_row wr K.bQ 0 _ _ _ hR.out.mem.q.que
    have f0 := frozen_of_row wr K.bQ 0 _ _ hR.out.mem.q.que
    simp only [List.getElem?_toArray, List.getElem?_cons_zero] at q0
    have hql : (M.q.length : Int) ≤ K.n := by have := hR.out.cnt; omega
    by_cases hpos : 0 < (M.q.length : Int)
    case neg =>
      go_wp2_with fail
      have hq0 : M.q = [] := List.length_eq_zero_iff.1 (by omega)
      have hb := hR.out.bfs
      rw [hq0] at hb
      have hD := hb.final
      have hbw := hR.out.below
      have hI1 := hI.out.below hbw
      have hszB : K.B ≤ wr.heap.size := by have := hR.out.mem.top; have := hK.out; unfold Kon.Ok at this; omega
      refine Code.wp_mono (Q := bodyPost Try.prog Try.f14 fun e w' => EndPost (h.Edge m) s M.ds w00 e w') (bodyPost_imp fun e w' he => ⟨M.ds, hD, he⟩) ?_
      refine lev_any (h.Edge m) K.n s bx bA K.bDist K.bD M.ds L.wr L.rd w00 wr (hidden (h00.out.trans (hbw.mono hB00.out))) hn hs (hidden ?_) _ _ _ _ _ _ _ _ _ _ _ _ _ _ _ _ _ _ _ _ _ _ _ _ _ _ _ _ _ _ _ _ _ _ _ _ _ _ _ _ _ _ _ _ _ _ _ _ _ _ _ _ _ _ _ _ _ _ _ _ _ _ _ _ _ _ _ _ _ _ _ _ _ _ _ _ _ _ _ _ _ _ _ _ _ _ _ _ _ _ _ _ _ _ _ _ _ _ _ _ _ _ _ _ _ _ _ _ _ _ _ _ _ _ _ _ _ _ _ _ _ _ _ _ _ _ _ _ _ _ _ _ _ _ _ _ _ _ _ _ _ _ _ _ _ _ _ _ _ _ _ _ _ _ _ _ _ _ _ _ _ _ _ _ _ _ _ _ _ _ _ _ _ _ _ _ _ _ _ _ _ _ _ _ _ _ _ _ _ _ _ _ _ _ _ _ _ _ _ _ _ _ _ _ _ _ _ _ _ _ _ _ _ _ _ _ _ _ _ _ _ _ _ _ _ _ _ _ _ _ _ _ _ _ _ _ _ _ _ _ _ _ _ _ _ _ _ _ _ _ _ _ _ _ _ _ _ _ _ _ _ _ _ _ _ _ _ _ _ _ _ _ _ _ _ _ _ _ _ _ _ _ _ _ _ _ _ _ _ _ _ _ _ _ _ _ _ _ _ _ _ _ _ _ _ _ _ _ _ _ _ _ _ _ _ _ _ _ _ _ _ _ _ _ _ _ _ _ _ _ _ _ _ _ _ _ _ _ _ _ _ _ _ _ _ _ _ _ _ _ _ _
      exact
      { acc := ⟨hI1.acc.at_, ⟨Nat.lt_of_lt_of_le hI1.acc.lt.1 hszB, Nat.lt_of_lt_of_le hI1.acc.lt.2 hszB⟩, fun v hv => by
          obtain ⟨A, a1, a2, a3⟩ := hI1.acc.row v hv
          exact ⟨A, a1, a2, a3.mono hszB⟩⟩
        len := fun v hv => ⟨by have h2 := hI.out.told.wrL v; have := hI.out.lm; omega, by have h2 := hI.out.told.rdL v; have := hI.out.lm; omega⟩
        box := hR.out.mem.q.box
        dist := hR.out.mem.q.dist
        dl := hR.out.len
        small := fun v => by have := hb.small v; have := hR.out.len; omega
        edge := fun u v hu hv hne => prec_edge hI.out.told hI.out.sane hne
        inn := fun u v he => by
          obtain ⟨i, j, hij, hj, ti, tj, _⟩ := he
          have h1 := hI.out.sane.tx i (by omega)
          have h2 := hI.out.sane.tx j hj
          omega
        irr := fun v => h.edge_irrefl m v
        isD := hD
        on := hon.out _ hD }
    obtain ⟨u, r, hq⟩ : ∃ u r, M.q = u :: r := by
      cases hq : M.q with
      | nil => rw [hq] at hpos; simp at hpos
      | cons u r => exact ⟨u, r, rfl⟩
    have q1 := hR.out.mem.q.own.cell (j := 0) (by omega)
    have HQ := hidden hq
    have q2 : wr.cell? ⟨M.qb, M.qo, none⟩ = some (.int .i64 (u : Int)) := by
      rw [Nat.add_zero] at q1
      rw [q1]
      congr 2
      simp [hq]
    have hcap : (M.q.length : Int) ≤ M.qc := by
      obtain ⟨cur, _, h2, _⟩ := hR.out.mem.q.own
      omega
    have hcapm : (M.qc : Int) ≤ 9223372036854775807 := by
      obtain ⟨cur, _, _, h2, _⟩ := hR.out.mem.q.own
      unfold maxLen at h2
      omega
    clear q1 hq
    have hposN : 0 < M.q.length := by omega
    have hun : u < K.n := by
      have h1 := (hR.out.bfs.seen u).2 (.inl (by rw [HQ.out]; simp))
      have h2 := lt_of_dAt h1
      rw [hR.out.len] at h2
      exact h2
    obtain ⟨A, a1w, a2w, a3⟩ := hI.out.acc.row u hun
    have b0 : (0 : Int) ≤ u := by omega
    have b1 : (u : Int) < K.n := by omega
    obtain ⟨qo', hif, hown'⟩ : ∃ qo', (if M.qc = 1 then some (⟨M.qb, M.qo, none⟩ : Addr) else some ⟨M.qb, M.qo + 1, none⟩) = some ⟨M.qb, qo', none⟩ ∧ OwnsQ wr M.qb qo' (M.qc - 1) r := by
      have ho := hR.out.mem.q.own
      rw [HQ.out] at ho
      by_cases hc : M.qc = 1
      · refine ⟨M.qo, by rw [if_pos hc], ?_⟩
        obtain ⟨cur, h1, h2, h3, h4, h5⟩ := ho
        have hr : r = [] := by
          simp at h2
          exact List.length_eq_zero_iff.1 (by omega)
        subst hr
        exact ⟨cur, h1, by simp, by omega, by omega, by simp⟩
      · exact ⟨M.qo + 1, by rw [if_neg hc], ho.pop⟩
    obtain ⟨m1, t1⟩ := hR.out.mem.popped2 hK.out hown'
    have hrl : M.q.length - 1 = r.length := by rw [HQ.out]; simp
    have hbfs := hR.out.bfs
    rw [HQ.out] at hbfs
    have hpop := hbfs.pop
    have hcnt := hR.out.cnt
    rw [HQ.out] at hcnt
    simp only [List.length_cons] at hcnt
    obtain ⟨W1, hW1⟩ : ∃ W1, wr.setCell ⟨K.bQ, 0, none⟩ (.slice (some ⟨M.qb, qo', none⟩) r.length (M.qc - 1)) = W1 := ⟨_, rfl⟩
    rw [hW1] at m1 t1
    have hkk := hK.out
    unfold Kon.Ok at hkk
    have hbw1 : Below K.B w W1 := hR.out.below.trans (t1.below (by have := hR.out.mem.top; omega) (by simp; omega))
    have S1 : Hid (MAt h K H m s L w P u (dAt M.ds u + 1) (r.length + unmet M.ds) 0 0 { M with q := r, qo := qo', qc := M.qc - 1 } W1) := hidden ⟨m1, ⟨hpop, rfl, hR.out.len, by show r.length + unmet M.ds ≤ _; omega, Nat.le_refl _⟩, hR.out.tw, hR.out.tr, hR.out.pend, hbw1, fun k e hk => by omega, fun k e hk => by omega⟩
    have d0 := cell_of_row W1 K.bDist 0 _ _ _ m1.q.box
    have d1 := cell_of_row W1 K.bD u _ _ _ m1.q.dist
    rw [dist_get _ u (by rw [hR.out.len]; exact hun)] at d1
    simp only [List.getElem?_toArray, List.getElem?_cons_zero] at d0
    have hI1 := hI.out.below hbw1
    have d2 := cell_of_row W1 bx 0 _ _ _ hI1.acc.at_
    simp only [List.getElem?_toArray, List.getElem?_cons_zero] at d2
    have a1 := (hbw1.cell (p := ⟨bA, u * 2, none⟩) hI.out.acc.lt.2).trans a1w
    have hdb : dAt M.ds u < K.n := by have := hR.out.bfs.small u; have := hR.out.len; omega
    have hdp := hpop.posU
    have hmu : Hid (r.length + unmet M.ds < bfsMu K wr) := hidden (by rw [bfsMu_eq hR.out.mem, HQ.out]; simp)
    obtain ⟨mu, hmu'⟩ : ∃ mu, r.length + unmet M.ds = mu := ⟨_, rfl⟩
    rw [hmu'] at S1 hmu
    obtain ⟨d, hd⟩ : ∃ d : Int, dAt M.ds u + 1 = d := ⟨_, rfl⟩
    rw [hd] at S1
    have hdw : IntKind.i64.wrap (dAt M.ds u + 1) = d := by rw [← hd]; simp [IntKind.wrap, IntKind.bits, IntKind.signed]; omega
    have HW1 := hidden hW1
    have HIF := hidden hif
    have HRL := hidden hrl
    have HAC := hidden a3
    have hwl : (A.wl : Int) ≤ 1024 := by have h1 := a3.wl; have h2 := hI.out.told.wrL u; have := hI.out.lm; omega
    have hrl' : (A.rl : Int) ≤ 1024 := by have h1 := a3.rl; have h2 := hI.out.told.rdL u; have := hI.out.lm; omega
    clear hW1 hif hrl m1 t1 hbfs hpop hcnt hown' hbw1 hI1 a3 hmu' hkk a1w
    have A2W := hidden a2w
    clear a2w
    go_upto_region 46 with fail
    rw [HIF.out, HRL.out, HW1.out]
    clear HIF HRL HW1 q0 f0 q2
    go_upto_region 47 with fail
    clear hd hdw d0 d1 hdb hdp
    go_wp2_with fail
    go_loopw [242] (fun v wx => ∃ (i : Nat) (M' : St), v = .int .i64 i ∧ i ≤ A.wl ∧ Hid (MAt h K H m s L w P u d mu i 0 M' wx)) (fun v _ => A.wl - (intOf v).toNat)
    case atStart => exact ⟨0, _, rfl, Nat.zero_le _, S1⟩
    case round =>
      clear S1 a1 d2
      obtain ⟨i, M', rfl, hi, hA⟩ := hrel
      by_cases hlt : (i : Int) < A.wl
      case neg =>
        have hiw : i = A.wl := by omega
        have d3 := (hA.out.below.cell (p := ⟨bx, 0, none⟩) hI.out.acc.lt.1).trans (cell_of_row w bx 0 _ _ _ hI.out.acc.at_)
        have d4 := (hA.out.below.cell (p := ⟨bA, u * 2 + 1, none⟩) hI.out.acc.lt.2).trans A2W.out
        simp only [List.getElem?_toArray, List.getElem?_cons_zero] at d3
        have S2 : Hid (MAt h K H m s L w P u d mu A.wl 0 M' wr) := by rw [← hiw]; exact hA
        clear hA hiw
        go_wp2_with fail
        go_loopw [270] (fun v wx => ∃ (j : Nat) (M2 : St), v = .int .i64 j ∧ j ≤ A.rl ∧ Hid (MAt h K H m s L w P u d mu A.wl j M2 wx)) (fun v _ => A.rl - (intOf v).toNat)
        case atStart => exact ⟨0, _, rfl, Nat.zero_le _, S2⟩
        case round =>
          clear S2 d3 d4
          obtain ⟨j, M2, rfl, hj, hA⟩ := hrel
          by_cases hlt2 : (j : Int) < A.rl
          case neg =>
            have hjr : j = A.rl := by omega
            subst hjr
            have hall : ∀ v, h.Edge m v u → 0 ≤ dAt M2.ds v := fun v hv => by
              rcases preds_all hI.out.told hI.out.sane (by rw [← hI.out.hz]; exact hI.out.iz) hv with ⟨e, he, x, hx, hxi, h1 | h1⟩ | ⟨r', hr, x, h1, h2, y, hy, hlt, hyv⟩
              · obtain ⟨k, hk⟩ := List.mem_iff_getElem?.1 he
                obtain ⟨y, hy, hlt, hyv⟩ := h1
                have := (hA.out.doneW k e (by have := (List.getElem?_eq_some_iff.1 hk).1; have := HAC.out.wl; omega) hk x hx).1 y hy hlt
                rwa [hyv] at this
              · obtain ⟨k, hk⟩ := List.mem_iff_getElem?.1 he
                obtain ⟨q, hq, hun', y, hy, hlt, hyv⟩ := h1
                have := (hA.out.doneW k e (by have := (List.getElem?_eq_some_iff.1 hk).1; have := HAC.out.wl; omega) hk x hx).2 q hq hun' y hy hlt
                rwa [hyv] at this
              · obtain ⟨k, hk⟩ := List.mem_iff_getElem?.1 hr
                have := hA.out.doneR k r' (by have := (List.getElem?_eq_some_iff.1 hk).1; have := HAC.out.rl; omega) hk x h1 h2 y hy hlt
                rwa [hyv] at this
            have NEXT : Hid (BAt h K H m s L w M2 (fun x => P x ∨ x = u) wr) := hidden ⟨hA.out.mem, hA.out.now.mid.done hall, hA.out.now.cnt, hA.out.now.len, hA.out.tw, hA.out.tr, hA.out.pend, hA.out.below⟩
            have MU : Hid (bfsMu K wr ≤ mu) := hidden (by rw [bfsMu_eq hA.out.mem]; exact hA.out.now.cap)
            clear hA hall
            go_wp2_with fail
            go_roundw
            case rel => exact ⟨M2, _, NEXT⟩
            case measure => have h1 := MU.out; have h2 := hmu.out; omega
          obtain ⟨e, he⟩ : ∃ e, (L.rd u)[j]? = some e := ⟨_, List.getElem?_eq_getElem (by have := HAC.out.rl; omega)⟩
          have hem := List.mem_of_getElem? he
          obtain ⟨k0, hk0, hk1, rk0, tk0⟩ := (hI.out.told.rdM u e).1 hem
          have sr := hI.out.sane.rd k0 hk1 rk0.1
          obtain ⟨c1, c2, c3⟩ := ((HAC.out.below hA.out.below).rd).cells j e he
          have hra := HAC.out.rd.addr (by have := HAC.out.rl; omega)
          have f1 : e.1 = iAt h.los k0 := by rw [hk0]
          have f2 : e.2.1 = iAt h.his k0 := by rw [hk0]
          have f3 : e.2.2 = (k0 : Int) := by rw [hk0]
          obtain ⟨lo, hlo⟩ : ∃ lo : Nat, e.1 = lo := ⟨e.1.toNat, by omega⟩
          obtain ⟨hi2, hhi⟩ : ∃ hi2 : Nat, e.2.1 = hi2 := ⟨e.2.1.toNat, by omega⟩
          obtain ⟨lst, hlst⟩ : ∃ lst : Int, e.2.2 = lst := ⟨_, rfl⟩
          rw [hlo] at c1
          rw [hhi] at c2
          rw [hlst] at c3
          have bj : (0 : Int) ≤ j := by omega
          have hhil : (hi2 : Int) ≤ K.items := by omega
          have hiz := hI.out.iz
          have hlol : (lo : Int) ≤ 200000 := by omega
          rw [hra]
          have HE := hidden (And.intro he (And.intro hlo (And.intro hhi hlst)))
          clear hlst hlo hhi he f1 f2 f3 hk0
          go_upto_region 56 with fail
          obtain ⟨W2, hW2⟩ : ∃ W2, wr.alloc (.cells #[.int .i64 (lo : Int), .int .i64 (hi2 : Int), .int .i64 lst] 56) = W2 := ⟨_, rfl⟩
          rw [hW2]
          have t2 : Turned [] wr W2 := by rw [← hW2]; exact Turned.of_grown (World.grownBy_alloc wr _ none) [] (fun k hk => by cases hk)
          have z2 : W2.heap[wr.heap.size]? = some (.cells #[.int .i64 (lo : Int), .int .i64 (hi2 : Int), .int .i64 lst] 56 (0, 0)) := by rw [← hW2]; exact heap_alloc_new wr _
          have hkk := hK.out
          unfold Kon.Ok at hkk
          have htop := hA.out.mem.top
          have hbW2 : Below K.B w W2 := hA.out.below.trans (t2.below (by omega) (by simp))
          have mW2 := hA.out.mem.kept t2
          have g0 := cell_of_row W2 wr.heap.size 0 _ _ _ z2
          have g1 := cell_of_row W2 wr.heap.size 1 _ _ _ z2
          have g2 := cell_of_row W2 wr.heap.size 2 _ _ _ z2
          simp only [List.getElem?_toArray, List.getElem?_cons_zero, List.getElem?_cons_succ] at g0 g1 g2
          have WR : Hid (Calls Try.prog 21 #[.int .i64 (lo : Int), .int .i64 (hi2 : Int), .int .i64 lst, .int .i64 d, .pointer (some ⟨K.bP, 0, none⟩), .pointer (some ⟨K.bF, 0, none⟩), .pointer (some ⟨bWrb, 0, none⟩), .pointer (some ⟨K.bTWb, 0, none⟩), .pointer (some ⟨K.bReach, 0, none⟩)] W2 fun e w' => e = .returned (.tuple #[]) ∧ WritePost K (fun a b => h.Edge m b a) mu s P u H d lst L.ws lo hi2 M2 W2 w') := hidden
            (writers_any K (fun a b => h.Edge m b a) mu s P u H lo hi2 bWrb bWr d lst L.ws M2 W2 hK (hidden hI.out.hz) (hidden hI.out.hN) hn hz (by omega) (by omega) hhil (hidden mW2) (hidden hA.out.now) (hidden hA.out.tw) (hidden hA.out.pend) (hidden (hI.out.tabW.below hbW2)) (hidden hI.out.told.wsS) (hidden fun x' hx' y hy => by
              obtain ⟨k, rfl, hk, _⟩ := (hI.out.told.wsM x' y).1 hy
              exact hI.out.sane.tx k hk) (hidden fun x' h1 h2 y hy hlt => preds_wr hI.out.told hI.out.sane hem (by rw [HE.out.2.1]; omega) (by rw [HE.out.2.2.1]; omega) hy (by rw [HE.out.2.2.2]; exact hlt)))
          have HBW2 := hidden hbW2
          clear hW2 t2 z2 c1 c2 c3 hbW2 mW2 hkk htop hem
          go_wp2_with fail
          refine WR.out.mono ?_
          rintro e' w3 ⟨rfl, M3, m3, n3, mo3, tw3, pe3, tr3, be3, tu3, dn3⟩
          have NEXT : Hid (MAt h K H m s L w P u d mu A.wl (j + 1) M3 w3) := hidden ⟨m3, n3, tw3, by rw [tr3]; exact hA.out.tr.more mo3, pe3, HBW2.out.trans be3, fun k e2 hk he2 => (hA.out.doneW k e2 hk he2).more mo3, fun k e2 hk he2 => by
            by_cases hki : k = j
            · subst hki
              rw [HE.out.1] at he2
              cases he2
              intro x' hx1 hx2
              rw [HE.out.2.1] at hx1
              rw [HE.out.2.2.1] at hx2
              rw [HE.out.2.2.2]
              exact dn3 x' (by omega) (by omega)
            · exact (hA.out.doneR k e2 (by omega) he2).more mo3⟩
          clear m3 n3 mo3 tw3 pe3 tr3 be3 tu3 dn3 WR g0 g1 g2
          go_wp2_with fail
          go_roundw
          case rel => exact ⟨j + 1, M3, by go_num, by omega, NEXT⟩
          case measure => simp [intOf]; omega
      obtain ⟨e, he⟩ : ∃ e, (L.wr u)[i]? = some e := ⟨_, List.getElem?_eq_getElem (by have := HAC.out.wl; omega)⟩
      have hem := List.mem_of_getElem? he
      obtain ⟨i0, j0, e1, e2, hi0, hj0, wi0, wj0, ti0, tj0, li0, lj0, _⟩ := hI.out.told.wrM u e hem
      have sj := hI.out.sane.wr j0 hj0 wj0.1
      obtain ⟨x, hx⟩ : ∃ x : Nat, e.1 = x := ⟨e.1.toNat, by omega⟩
      have hxi : x < K.items := by omega
      have hlm := hI.out.lm
      obtain ⟨lst, hlst⟩ : ∃ lst : Int, e.2.2 = lst := ⟨_, rfl⟩
      have hlb : 0 ≤ lst ∧ lst ≤ 1024 := by omega
      obtain ⟨c1, c2, c3⟩ := ((HAC.out.below hA.out.below).wr).cells i e he
      have hwa := HAC.out.wr.addr (by have := HAC.out.wl; omega)
      rw [hx] at c1
      rw [hlst] at c3
      have bi : (0 : Int) ≤ i := by omega
      rw [hwa]
      have HE := hidden (And.intro he (And.intro hx hlst))
      have hxz : (x : Int) ≤ 200000 := by have := hI.out.iz; omega
      have hxz2 : (x : Int) < K.z := by have := hI.out.iz; omega
      clear hlst hx he e1 e2
      go_upto_region 50 with fail
      obtain ⟨W2, hW2⟩ : ∃ W2, wr.alloc (.cells #[.int .i64 (x : Int), .int .i64 e.2.1, .int .i64 lst] 64) = W2 := ⟨_, rfl⟩
      rw [hW2]
      have t2 : Turned [] wr W2 := by rw [← hW2]; exact Turned.of_grown (World.grownBy_alloc wr _ none) [] (fun k hk => by cases hk)
      have z2 : W2.heap[wr.heap.size]? = some (.cells #[.int .i64 (x : Int), .int .i64 e.2.1, .int .i64 lst] 64 (0, 0)) := by rw [← hW2]; exact heap_alloc_new wr _
      have hkk := hK.out
      unfold Kon.Ok at hkk
      have htop := hA.out.mem.top
      have hbW2 : Below K.B w W2 := hA.out.below.trans (t2.below (by omega) (by simp))
      have mW2 := hA.out.mem.kept t2
      have g0 := cell_of_row W2 wr.heap.size 0 _ _ _ z2
      have g2 := cell_of_row W2 wr.heap.size 2 _ _ _ z2
      simp only [List.getElem?_toArray, List.getElem?_cons_zero, List.getElem?_cons_succ] at g0 g2
      have hqb := hA.out.mem.qbn
      have hnear : ∀ k ∈ K.own M', k < wr.heap.size := fun k hk => by
        simp only [Kon.own, List.mem_cons, Option.mem_toList] at hk
        have h1 := hA.out.mem.q.own.lt
        rcases hk with rfl | rfl | rfl | rfl | rfl | rfl | hk
        · omega
        · omega
        · omega
        · omega
        · omega
        · exact h1
        · exact (hA.out.mem.fo.lt k hk).2
      have WR : Hid (Calls Try.prog 21 #[.int .i64 (x : Int), .int .i64 ((x : Int) + 1), .int .i64 lst, .int .i64 d, .pointer (some ⟨K.bP, 0, none⟩), .pointer (some ⟨K.bF, 0, none⟩), .pointer (some ⟨bWrb, 0, none⟩), .pointer (some ⟨K.bTWb, 0, none⟩), .pointer (some ⟨K.bReach, 0, none⟩)] W2 fun e w' => e = .returned (.tuple #[]) ∧ WritePost K (fun a b => h.Edge m b a) mu s P u H d lst L.ws x (x + 1) M' W2 w') := by
        have h1 := writers_any K (fun a b => h.Edge m b a) mu s P u H x (x + 1) bWrb bWr d lst L.ws M' W2 hK (hidden hI.out.hz) (hidden hI.out.hN) hn hz (by have := hI.out.iz; omega) (by omega) (by omega) (hidden mW2) (hidden hA.out.now) (hidden hA.out.tw) (hidden hA.out.pend) (hidden (hI.out.tabW.below hbW2)) (hidden hI.out.told.wsS) (hidden fun x' hx' y hy => by
          obtain ⟨k, rfl, hk, _⟩ := (hI.out.told.wsM x' y).1 hy
          exact hI.out.sane.tx k hk) (hidden fun x' h1 h2 y hy hlt => by
          have e3 : x' = x := by omega
          subst e3
          exact preds_ww hI.out.told hI.out.sane hem HE.out.2.1 hy (by rw [HE.out.2.2]; exact hlt))
        exact h1
      have RD : Hid (∀ w3 M3, Mem K M3 w3 → Now (fun a b => h.Edge m b a) K.n mu s P u d M3.ds M3.q → Taken K.N L.rs M3.tr M3.ds → Below K.B w w3 → Calls Try.prog 23 #[.int .i64 (x : Int), .int .i64 lst, .int .i64 d, .pointer (some ⟨bTree, 0, none⟩), .pointer (some ⟨bRdb, 0, none⟩), .pointer (some ⟨K.bTRb, 0, none⟩), .pointer (some ⟨K.bReach, 0, none⟩)] w3 fun e w' => e = .returned (.tuple #[]) ∧ ReadPost K (fun a b => h.Edge m b a) mu s P u H d lst L.rs x M3 w3 w') := hidden fun w3 M3 h1 h2 h3 h4 =>
        readers_any K (fun a b => h.Edge m b a) mu s P u H x bTree bRdb bRd d lst L.rs M3 w3 hK (hidden hI.out.hz) (hidden hI.out.hN) hn hz hxz2 (hidden h1) (hidden h2) (hidden h3) (hidden (hI.out.tabR.below h4)) (hidden ⟨(h4.block bTree hI.out.tree.2).trans hI.out.tree.1, hI.out.tree.2⟩) (hidden hI.out.told.rsS) (hidden fun q hq y hy => by
          obtain ⟨k, rfl, hk, _⟩ := (hI.out.told.rsM q y).1 hy
          exact hI.out.sane.tx k hk) (hidden fun q hq hu y hy hlt => preds_rw hI.out.told hI.out.sane (by rw [← hI.out.hz]; exact hI.out.iz) hem HE.out.2.1 hu hy (by rw [HE.out.2.2]; exact hlt))
      have hx1 : IntKind.i64.wrap ((x : Int) + 1) = (x : Int) + 1 := by simp [IntKind.wrap, IntKind.bits, IntKind.signed]; omega
      have Z2 := hidden z2
      have HBW2 := hidden hbW2
      have HNEAR := hidden hnear
      clear hW2 t2 z2 c1 c2 c3 hbW2 mW2 hnear hkk htop hqb hem
      go_wp2_with fail
      refine WR.out.mono ?_
      rintro e' w3 ⟨rfl, M3, m3, n3, mo3, tw3, pe3, tr3, be3, tu3, dn3⟩
      have z3 := tu3.keep Z2.out (fun hk => by have := HNEAR.out _ hk; omega)
      have hb3 := HBW2.out.trans be3
      have k0 := cell_of_row w3 wr.heap.size 0 _ _ _ z3
      have k2 := cell_of_row w3 wr.heap.size 2 _ _ _ z3
      simp only [List.getElem?_toArray, List.getElem?_cons_zero, List.getElem?_cons_succ] at k0 k2
      have htr3 : Taken K.N L.rs M3.tr M3.ds := by rw [tr3]; exact hA.out.tr.more mo3
      have RD3 := hidden (RD.out w3 M3 m3 n3 htr3 hb3)
      have G3 := hidden (And.intro mo3 (And.intro tw3 (And.intro pe3 (And.intro hb3 dn3))))
      clear m3 n3 mo3 tw3 pe3 tr3 be3 tu3 dn3 z3 hb3 htr3 WR RD g0 g2
      go_wp2_with fail
      refine RD3.out.mono ?_
      rintro e' w4 ⟨rfl, M4, m4, n4, mo4, tr4, ⟨s1, s2, s3, s4⟩, be4, dn4⟩
      obtain ⟨mo3, tw3, pe3, hb3, dn3⟩ := G3.out
      have NEXT : Hid (MAt h K H m s L w P u d mu (i + 1) 0 M4 w4) := hidden ⟨m4, n4, by rw [s1]; exact tw3.more mo4, tr4, by rw [s1, s2]; exact pe3, hb3.trans be4, fun k e2 hk he2 => by
        by_cases hki : k = i
        · subst hki
          rw [HE.out.1] at he2
          cases he2
          intro x' hx'
          have e3 : x' = x := by have := HE.out.2.1; omega
          subst e3
          rw [HE.out.2.2]
          exact ⟨(dn3 x' (Nat.le_refl _) (Nat.lt_succ_self _)).more mo4, dn4⟩
        · exact ((hA.out.doneW k e2 (by omega) he2).more mo3).more mo4, fun k r hk => by omega⟩
      clear m4 n4 mo4 tr4 s1 s2 s3 s4 be4 dn4 G3 RD3 mo3 tw3 pe3 hb3 dn3 k0 k2
      go_wp2_with fail
      go_roundw
      case rel => exact ⟨i + 1, M4, by go_num, by omega, NEXT⟩
      case measure => simp [intOf]; omega

end Go.Proofs.Qxb6612201a
