/-
  WALK: shortestCycle's last part: the cycle.
-/
import Derived.Test.Qxb6612201aLowS
import Derived.Test.Qxb6612201aNewCf
import Derived.Test.Qxb6612201aCycP
import Derived.Test.Qxb6612201aSpine
namespace Go.Proofs.Qxb6612201a
open Go.RowKit Go.Shelf
set_option linter.unusedVariables false
set_option linter.unusedSimpArgs false

/-- The levels. -/
structure LevTab (w : World) (bL nl : Nat) (lev : Nat → List Nat) : Prop where
  lt : bL < w.heap.size
  row : ∀ d, d < nl → ∃ (a : Option Addr) (cap g : Nat), w.cell? ⟨bL, d, none⟩ = some (.slice a (lev d).length cap) ∧ VRow w a g (lev d)

theorem VRow.below {w w' : World} {a : Option Addr} {g : Nat} {lv : List Nat} (h : VRow w a g lv) (hb : Below w.heap.size w w') : VRow w' a g lv :=
  ⟨h.addr, fun h0 => Nat.lt_of_lt_of_le (h.lt h0) hb.size, h.len, fun j x hx => (hb.cell (p := ⟨g, j, none⟩) (h.lt (by have := (List.getElem?_eq_some_iff.1 hx).1; omega))).trans (h.cells j x hx)⟩

theorem LevTab.below {w w' : World} {bL nl : Nat} {lev : Nat → List Nat} (h : LevTab w bL nl lev) (hb : Below w.heap.size w w') : LevTab w' bL nl lev :=
  ⟨Nat.lt_of_lt_of_le h.lt hb.size, fun d hd => by
    obtain ⟨a, cap, g, h1, h2⟩ := h.row d hd
    exact ⟨a, cap, g, (hb.cell (p := ⟨bL, d, none⟩) h.lt).trans h1, h2.below hb⟩⟩

/-- What the last part finds. -/
structure EndIn (E : Nat → Nat → Prop) (n s bx bA bDist bD bL nl : Nat) (ds : List Int) (ww rr : Nat → List (Int × Int × Int)) (lev : Nat → List Nat) (w : World) : Prop where
  acc : AccTab w.heap.size w bx bA n ww rr
  len : ∀ v, v < n → (ww v).length ≤ 1024 ∧ (rr v).length ≤ 1024
  box : w.heap[bDist]? = some (.cells #[.slice (some ⟨bD, 0, none⟩) n n] 22 (0, 0))
  dist : w.heap[bD]? = some (.cells (ds.map (Value.int .i64)).toArray 3 (0, 0))
  dl : ds.length = n
  levs : LevTab w bL nl lev
  isLev : ∀ d, d < nl → IsLev n (dAt ds) d (lev d)
  top : ∀ v, dAt ds v < nl
  edge : ∀ u v, u < n → v < n → u ≠ v → (Prec (ww u) (rr u) (ww v) (rr v) ↔ E u v)
  inn : ∀ u v, E u v → u < n ∧ v < n
  irr : ∀ v, ¬ E v v
  isD : IsDist (fun a b => E b a) s (dAt ds)
  on : ∃ v, E s v ∧ 0 ≤ dAt ds v

theorem T3.mono {B B' : Nat} {w : World} {a : Option Addr} {cap g : Nat} {zs : List (Int × Int × Int)} (h : T3 B w a cap g zs) (hB : B ≤ B') : T3 B' w a cap g zs := { h with lt := Nat.lt_of_lt_of_le h.lt hB }
theorem ACMem.mono {B B' : Nat} {A : AC} {vw vr : List (Int × Int × Int)} {w : World} (h : ACMem B A vw vr w) (hB : B ≤ B') : ACMem B' A vw vr w := { h with wr := h.wr.mono hB, rd := h.rd.mono hB }

theorem EndIn.below {E : Nat → Nat → Prop} {n s bx bA bDist bD bL nl : Nat} {ds : List Int} {ww rr : Nat → List (Int × Int × Int)} {lev : Nat → List Nat} {w w' : World} (h : EndIn E n s bx bA bDist bD bL nl ds ww rr lev w) (hb : Below w.heap.size w w') : EndIn E n s bx bA bDist bD bL nl ds ww rr lev w' :=
  { h with
    acc := by
      have h1 := h.acc.below hb
      exact ⟨h1.at_, ⟨Nat.lt_of_lt_of_le h1.lt.1 hb.size, Nat.lt_of_lt_of_le h1.lt.2 hb.size⟩, fun v hv => by
        obtain ⟨A, a1, a2, a3⟩ := h1.row v hv
        exact ⟨A, a1, a2, a3.mono hb.size⟩⟩
    box := (hb.block bDist (Array.getElem?_eq_some_iff.1 h.box).1).trans h.box
    dist := (hb.block bD (Array.getElem?_eq_some_iff.1 h.dist).1).trans h.dist
    levs := h.levs.below hb }

def EndPost (E : Nat → Nat → Prop) (s : Nat) (ds : List Int) (w : World) (e : Ending) (w' : World) : Prop :=
  ∃ (v : Value) (L : List Nat), e = .returned v ∧ w'.ownsRow w.heap.size 3 1 v L.length (L.map fun x : Nat => Value.int .i64 (x : Int)) ∧ Cyc E (dAt ds) s L ∧ Below w.heap.size w w'

/-- The cycle so far. -/
structure CycAt (E : Nat → Nat → Prop) (s : Nat) (ds : List Int) (w0 : World) (l1 : List Nat) (gc cc : Nat) (u : Nat) (w : World) : Prop where
  own : w.ownsRow w0.heap.size 3 1 (.slice (some ⟨gc, 0, none⟩) (l1.length + 1) cc) (l1.length + 1) ((s :: l1).map fun x : Nat => Value.int .i64 (x : Int))
  below : Below w0.heap.size w0 w
  pre : PreCyc E (dAt ds) s l1 u
  bnd : (l1.length : Int) + dAt ds u ≤ 2000
  le : 0 ≤ dAt ds u

/-- The search for s's nearest successor: the levels ahead of d have none. -/
structure FirstAt (E : Nat → Nat → Prop) (s : Nat) (ds : List Int) (w0 : World) (gc d : Nat) (w : World) : Prop where
  own : w.ownsRow w0.heap.size 3 1 (.slice (some ⟨gc, 0, none⟩) 1 1) 1 [.int .i64 (s : Int)]
  below : Below w0.heap.size w0 w
  none : ∀ v, E s v → 0 ≤ dAt ds v → (d : Int) ≤ dAt ds v

def SLast (A : AC) (bx bA bDist bD bL n u dd : Nat) (la : Option Addr) (len lc : Nat) (W1 w' : World) : Prop :=
  Below W1.heap.size W1 w' ∧ w'.cell? ⟨bx, 0, none⟩ = some (.slice (some ⟨bA, 0, none⟩) n n) ∧ w'.cell? ⟨bA, u * 2, none⟩ = some (.slice A.wa A.wl A.wc) ∧ w'.cell? ⟨bA, u * 2 + 1, none⟩ = some (.slice A.ra A.rl A.rc) ∧ w'.cell? ⟨bDist, 0, none⟩ = some (.slice (some ⟨bD, 0, none⟩) n n) ∧ w'.cell? ⟨bD, u, none⟩ = some (.int .i64 ((dd : Int) + 1)) ∧ w'.cell? ⟨bL, dd, none⟩ = some (.slice la len lc)

theorem CFMem.mono {B B' : Nat} {F : CF} {uw ur : List (Int × Int × Int)} {items arr1 bounds arr2 : List Int} {w : World} (h : CFMem B F uw ur items arr1 bounds arr2 w) (hB : B ≤ B') : CFMem B' F uw ur items arr1 bounds arr2 w :=
  { h with row1 := { h.row1 with lt := Nat.lt_of_lt_of_le h.row1.lt hB }, g1 := Nat.lt_of_lt_of_le h.g1 hB, row2 := { h.row2 with lt := Nat.lt_of_lt_of_le h.row2.lt hB }, g2 := Nat.lt_of_lt_of_le h.g2 hB }

def SFrom (F : CF) (b bL d : Nat) (la : Option Addr) (len lc : Nat) (W1 w' : World) : Prop :=
  Below W1.heap.size W1 w' ∧ (w'.cell? ⟨b, 0, none⟩ = some (.slice F.ia F.m F.ic) ∧ w'.cell? ⟨b, 1, none⟩ = some (.int .i64 F.z1) ∧ w'.cell? ⟨b, 2, none⟩ = some (.slice (some ⟨F.g1, 0, none⟩) F.N1 F.N1) ∧ w'.cell? ⟨b, 3, none⟩ = some (.slice F.ba F.nb F.bc) ∧ w'.cell? ⟨b, 4, none⟩ = some (.int .i64 F.z2) ∧ w'.cell? ⟨b, 5, none⟩ = some (.slice (some ⟨F.g2, 0, none⟩) F.N2 F.N2)) ∧
  w'.cell? ⟨bL, d, none⟩ = some (.slice la len lc)

set_option maxHeartbeats 25600000 in
set_option maxRecDepth 1000000 in
theorem end_any (E : Nat → Nat → Prop) (n s bx bA bDist bD bL nl capL : Nat) (ds : List Int) (ww rr : Nat → List (Int × Int × Int)) (lev : Nat → List Nat) (w00 w : World) (h00 : Hid (Below w00.heap.size w00 w)) (hn : (n : Int) ≤ 1024) (hs : (s : Int) < n) (hnl : (nl : Int) ≤ 1024) (hI : Hid (EndIn E n s bx bA bDist bD bL nl ds ww rr lev w))
    (u0 u2 u3 u4 u5 u7 u8 u9 u10 u11 u12 u13 u14 u16 u17 u18 u19 u20 u21 u22 u23 u24 u25 u26 u27 u28 u29 u30 u31 u32 u34 u35 u36 u37 u38 u39 u40 u41 u42 u43 u44 u45 u46 u47 u48 u49 u50 u51 u52 u53 u54 u55 u56 u57 u58 u59 u60 u61 u62 u63 u64 u65 u66 u67 u68 u69 u70 u71 u72 u73 u74 u75 u76 u77 u78 u79 u80 u81 u82 u83 u84 u85 u86 u87 u88 u89 u90 u91 u92 u93 u94 u95 u96 u97 u98 u99 u100 u101 u102 u103 u104 u105 u106 u107 u108 u109 u110 u111 u112 u113 u114 u115 u116 u117 u118 u119 u120 u121 u122 u123 u124 u125 u126 u127 u128 u129 u130 u131 u132 u133 u134 u135 u136 u137 u138 u139 u140 u141 u142 u143 u144 u145 u146 u147 u148 u149 u150 u151 u152 u153 u154 u155 u156 u157 u158 u159 u160 u161 u162 u163 u164 u165 u166 u167 u168 u169 u170 u171 u172 u173 u174 u175 u176 u177 u178 u179 u180 u181 u182 u183 u184 u185 u186 u187 u188 u189 u190 u191 u192 u193 u194 u195 u196 u197 u198 u199 u200 u201 u202 u203 u204 u205 u206 u207 u208 u209 u210 u211 u212 u213 u214 u215 u216 u217 u218 u219 u220 u221 u222 u223 u224 u225 u226 u227 u228 u229 u230 u231 u232 u233 u234 u235 u236 u237 u238 u239 u240 u241 u242 u243 u244 u245 u246 u247 u248 u249 u250 u251 u252 u253 u254 u255 u256 u257 u258 u259 u260 u261 u262 u263 u264 u265 u266 u267 u268 u269 u270 u271 u272 u273 u274 u275 u276 u277 u278 u279 u280 u281 u282 u283 u284 u285 u286 u287 u288 u289 u290 u291 u292 u293 u294 u295 u296 u297 u298 u299 u300 u301 u302 u303 u304 u305 u306 u307 u308 u309 u310 u311 u312 u313 u314 u315 u316 u317 u318 u319 u320 u321 u322 u323 u324 u325 u326 u327 u328 u329 u330 u331 u332 u333 u334 u335 u336 u337 u338 u339 u340 u341 u342 u343 u344 u345 u346 u347 u348 u349 u350 u351 u352 u353 u354 : Value) :
    Code.wp Try.prog (dropS 22 (b14 Try.f14)) (bodyPost Try.prog Try.f14 fun e w' => EndPost E s ds w00 e w') { tmps := #[u0, .int .i64 s, u2, u3, u4, u5, .pointer (some ⟨bx, 0, none⟩), u7, u8, u9, u10, u11, u12, u13, u14, .pointer (some ⟨bDist, 0, none⟩), u16, u17, u18, u19, u20, u21, u22, u23, u24, u25, u26, u27, u28, u29, u30, u31, u32, .slice (some ⟨bL, 0, none⟩) nl capL, u34, u35, u36, u37, u38, u39, u40, u41, u42, u43, u44, u45, u46, u47, u48, u49, u50, u51, u52, u53, u54, u55, u56, u57, u58, u59, u60, u61, u62, u63, u64, u65, u66, u67, u68, u69, u70, u71, u72, u73, u74, u75, u76, u77, u78, u79, u80, u81, u82, u83, u84, u85, u86, u87, u88, u89, u90, u91, u92, u93, u94, u95, u96, u97, u98, u99, u100, u101, u102, u103, u104, u105, u106, u107, u108, u109, u110, u111, u112, u113, u114, u115, u116, u117, u118, u119, u120, u121, u122, u123, u124, u125, u126, u127, u128, u129, u130, u131, u132, u133, u134, u135, u136, u137, u138, u139, u140, u141, u142, u143, u144, u145, u146, u147, u148, u149, u150, u151, u152, u153, u154, u155, u156, u157, u158, u159, u160, u161, u162, u163, u164, u165, u166, u167, u168, u169, u170, u171, u172, u173, u174, u175, u176, u177, u178, u179, u180, u181, u182, u183, u184, u185, u186, u187, u188, u189, u190, u191, u192, u193, u194, u195, u196, u197, u198, u199, u200, u201, u202, u203, u204, u205, u206, u207, u208, u209, u210, u211, u212, u213, u214, u215, u216, u217, u218, u219, u220, u221, u222, u223, u224, u225, u226, u227, u228, u229, u230, u231, u232, u233, u234, u235, u236, u237, u238, u239, u240, u241, u242, u243, u244, u245, u246, u247, u248, u249, u250, u251, u252, u253, u254, u255, u256, u257, u258, u259, u260, u261, u262, u263, u264, u265, u266, u267, u268, u269, u270, u271, u272, u273, u274, u275, u276, u277, u278, u279, u280, u281, u282, u283, u284, u285, u286, u287, u288, u289, u290, u291, u292, u293, u294, u295, u296, u297, u298, u299, u300, u301, u302, u303, u304, u305, u306, u307, u308, u309, u310, u311, u312, u313, u314, u315, u316, u317, u318, u319, u320, u321, u322, u323, u324, u325, u326, u327, u328, u329, u330, u331, u332, u333, u334, u335, u336, u337, u338, u339, u340, u341, u342, u343, u344, u345, u346, u347, u348, u349, u350, u351, u352, u353, u354], defers := [] } w := by
  conv => arg 2; whnf
  obtain ⟨i3, hi3, z30, z31, z32⟩ := info_parts Try.info3
  have hmf : ∀ (fn : Fn) (first cap : Array Value) (w : World), (Instr.makeFunc fn first cap).run Try.prog w = .ok (.func fn first cap) w := fun _ _ _ _ => rfl
  obtain ⟨A, a1, a2, a3⟩ := hI.out.acc.row s (by omega)
  have c0 := cell_of_row w bx 0 _ _ _ hI.out.acc.at_
  simp only [List.getElem?_toArray, List.getElem?_cons_zero] at c0
  have b0 : (0 : Int) ≤ s := by omega
  go_upto_region 69 with fail
  obtain ⟨W1, hW1⟩ : ∃ W1, w.alloc (.cells #[.int .i64 (s : Int)] 3) = W1 := ⟨_, rfl⟩
  have t1 : Turned [] w W1 := by rw [← hW1]; exact Turned.of_grown (World.grownBy_alloc w _ none) [] (fun k hk => by cases hk)
  have hb1 := t1.below (Nat.le_refl _) (by simp)
  have own1 : W1.ownsRow w.heap.size 3 1 (.slice (some ⟨w.heap.size, 0, none⟩) 1 1) 1 [.int .i64 (s : Int)] := by
    rw [← hW1]
    exact ⟨rfl, .inr ⟨w.heap.size, 1, _, rfl, Nat.le_refl _, heap_alloc_new w _, Nat.le_refl _, by unfold maxLen; omega, rfl, rfl⟩⟩
  rw [hW1]
  clear hW1 t1
  have HI1 := hidden (hI.out.below hb1)
  have d0 := (hb1.cell (p := ⟨bx, 0, none⟩) hI.out.acc.lt.1).trans c0
  have d1 := (hb1.cell (p := ⟨bA, s * 2, none⟩) hI.out.acc.lt.2).trans a1
  have d2 := (hb1.cell (p := ⟨bA, s * 2 + 1, none⟩) hI.out.acc.lt.2).trans a2
  have lenS := hI.out.len s (by omega)
  have NC : Hid (Calls Try.prog 27 #[.agg #[.slice A.wa A.wl A.wc, .slice A.ra A.rl A.rc]] W1 fun e w' => NewPost (ww s) (rr s) W1 e w') := hidden (newCf_any w.heap.size A (ww s) (rr s) W1 hb1.size (hidden (a3.below hb1)) (by have := a3.wl; omega) (by have := a3.rl; omega))
  have OW1 := hidden own1
  have HB1 := hidden hb1
  clear own1 hb1 a1 a2 a3 c0 lenS
  go_wp2_with fail
  refine NC.out.mono ?_
  rintro e w2 ⟨⟨F, items, arr1, bounds, arr2, rfl, hcf⟩, hb2⟩
  have CF2 := hidden hcf
  have HB2 := hidden hb2
  clear hcf hb2 d0 d1 d2 NC
  unfold CF.val
  go_wp2_with fail
  obtain ⟨W3, hW3⟩ : ∃ W3, w2.alloc (.cells #[.slice F.ia F.m F.ic, .int .i64 F.z1, .slice (some ⟨F.g1, 0, none⟩) F.N1 F.N1, .slice F.ba F.nb F.bc, .int .i64 F.z2, .slice (some ⟨F.g2, 0, none⟩) F.N2 F.N2] 76) = W3 := ⟨_, rfl⟩
  rw [hW3]
  have t3 : Turned [] w2 W3 := by rw [← hW3]; exact Turned.of_grown (World.grownBy_alloc w2 _ none) [] (fun k hk => by cases hk)
  have x3 : W3.heap[w2.heap.size]? = some (.cells #[.slice F.ia F.m F.ic, .int .i64 F.z1, .slice (some ⟨F.g1, 0, none⟩) F.N1 F.N1, .slice F.ba F.nb F.bc, .int .i64 F.z2, .slice (some ⟨F.g2, 0, none⟩) F.N2 F.N2] 76 (0, 0)) := by rw [← hW3]; exact heap_alloc_new w2 _
  have s3 : W3.heap.size = w2.heap.size + 1 := by rw [← hW3]; simp
  have hb3 := t3.below (Nat.le_refl _) (by simp)
  have hb03 : Below w.heap.size w W3 := (HB1.out.trans (HB2.out.mono HB1.out.size)).trans (hb3.mono (Nat.le_trans HB1.out.size HB2.out.size))
  have HI3 := hidden (hI.out.below hb03)
  have CF3 := hidden (CF2.out.below hb3)
  have F0 : Hid (FirstAt E s ds w w.heap.size 1 W3) := hidden ⟨own_turned (own_turned OW1.out (Turned.of_below HB2.out (Nat.le_refl _)) (by simp)) t3 (by simp), hb03, fun v hv h0 => by
    have h1 : v ≠ s := fun e => by subst e; exact hI.out.irr v hv
    have h2 : dAt ds v ≠ 0 := fun e => h1 (dist_zero hI.out.isD v e)
    omega⟩
  have X3 := hidden x3
  have L3 : w.heap.size ≤ w2.heap.size := Nat.le_trans HB1.out.size HB2.out.size
  clear hW3 t3 x3 hb3 CF2 HB2 OW1 HI1 hb03
  go_wp2_with fail
  go_loopw [39, 40] (fun v39 v40 wx => ∃ d : Nat, v40 = .int .i64 d ∧ 1 ≤ d ∧ d ≤ 2000 ∧ Hid (Below W3.heap.size W3 wx) ∧ ((v39 = .int .i64 (-1) ∧ Hid (FirstAt E s ds w w.heap.size d wx)) ∨ ∃ u : Nat, v39 = .int .i64 u ∧ u < n ∧ Hid (CycAt E s ds w [] w.heap.size 1 u wx))) (fun v39 v40 _ => if intOf v39 < 0 then 3000 - (intOf v40).toNat else 0)
  case atStart => exact ⟨1, rfl, Nat.le_refl _, by omega, hidden (Below.refl _ _), .inl ⟨rfl, F0⟩⟩
  case round =>
    clear F0
    obtain ⟨d, rfl, hd1, hd2, hbx, ⟨rfl, hF⟩ | ⟨u, rfl, hu, hC⟩⟩ := hrel
    · obtain ⟨v0, hv0, hv1⟩ := hI.out.on
      have hdn : (d : Int) < nl := by have h1 := hF.out.none v0 hv0 hv1; have h2 := hI.out.top v0; omega
      clear v0 hv0 hv1
      have HIx := hidden (HI3.out.below hbx.out)
      obtain ⟨la, lc, lg, l1, l2⟩ := HIx.out.levs.row d (by omega)
      have bd0 : (0 : Int) ≤ d := by omega
      have KEEP : Hid (∀ W', Below wr.heap.size wr W' → SFrom F w2.heap.size bL d la (lev d).length lc wr W') := hidden fun W' hb => by
        have y0 := (hb.block w2.heap.size (by have := hbx.out.size; omega)).trans ((hbx.out.block w2.heap.size (by omega)).trans X3.out)
        exact ⟨hb, ⟨cell_of_row W' _ 0 _ _ _ y0, cell_of_row W' _ 1 _ _ _ y0, cell_of_row W' _ 2 _ _ _ y0, cell_of_row W' _ 3 _ _ _ y0, cell_of_row W' _ 4 _ _ _ y0, cell_of_row W' _ 5 _ _ _ y0⟩, (hb.cell (p := ⟨bL, d, none⟩) HIx.out.levs.lt).trans l1⟩
      have LS : Hid (∀ W', Below wr.heap.size wr W' → Calls Try.prog 25 #[.agg #[.slice F.ia F.m F.ic, .int .i64 F.z1, .slice (some ⟨F.g1, 0, none⟩) F.N1 F.N1, .slice F.ba F.nb F.bc, .int .i64 F.z2, .slice (some ⟨F.g2, 0, none⟩) F.N2 F.N2], .slice la (lev d).length lc, .pointer (some ⟨bx, 0, none⟩)] W' fun e w' => LowSPost (ww s) (rr s) ww rr (lev d) W' e w' ∧ Below wr.heap.size wr w') := hidden fun W' hb => by
        have h1 := HIx.out.below hb
        have hsz := hb.size
        have hszx := hbx.out.size
        refine (lowSucc_any W'.heap.size F (ww s) (rr s) items arr1 bounds arr2 ww rr bx bA n la lc lg _ (lev d) W' (Nat.le_refl _) hn (hidden rfl) (hidden ((CF3.out.below ((hbx.out.trans (hb.mono hszx)).mono (by omega))).mono (by omega))) (hidden h1.acc) (hidden (l2.below hb)) (hidden fun v hv => (((hI.out.isLev d (by omega)).mem v).1 hv).1)).mono ?_
        intro e w' he
        exact ⟨he, hb.trans (he.2.mono hsz)⟩
      have FOUND : Hid (∀ (i v : Nat) (w' : World), (lev d)[i]? = some v → Prec (ww s) (rr s) (ww v) (rr v) → (∀ (j u : Nat), j < i → (lev d)[j]? = some u → ¬ Prec (ww s) (rr s) (ww u) (rr u)) → Below wr.heap.size wr w' → v < n ∧ CycAt E s ds w [] w.heap.size 1 v w') := hidden fun i v w' h1 h2 h3 h4 => by
        have hlv := hI.out.isLev d (by omega)
        have hne : ∀ x, x ∈ lev d → s ≠ x := fun x hx e => by
          have e1 := ((hlv.mem x).1 hx).2
          rw [← e, dist_self hI.out.isD] at e1
          omega
        have hvn := ((hlv.mem v).1 (List.mem_of_getElem? h1)).1
        have hlow : IsLow E (dAt ds) s d v := hlv.low hI.out.inn h1 ((hI.out.edge s v (by omega) hvn (hne v (List.mem_of_getElem? h1))).1 h2) (fun j x hj hx hE => h3 j x hj hx ((hI.out.edge s x (by omega) (hI.out.inn _ _ hE).2 (hne x (List.mem_of_getElem? hx))).2 hE))
        exact ⟨hvn, ⟨own_turned hF.out.own (Turned.of_below h4 (Nat.le_refl _)) (by simp), hF.out.below.trans (h4.mono hF.out.below.size), PreCyc.start (by omega) hlow hF.out.none, by have h5 := hI.out.top v; simp; omega, by rw [hlow.2.1]; omega⟩⟩
      have NONE : Hid (∀ w' : World, (∀ u ∈ lev d, ¬ Prec (ww s) (rr s) (ww u) (rr u)) → Below wr.heap.size wr w' → FirstAt E s ds w w.heap.size (d + 1) w') := hidden fun w' h1 h4 => by
        have hlv := hI.out.isLev d (by omega)
        refine ⟨own_turned hF.out.own (Turned.of_below h4 (Nat.le_refl _)) (by simp), hF.out.below.trans (h4.mono hF.out.below.size), fun v hv h0 => ?_⟩
        have h5 := hF.out.none v hv h0
        have h6 : dAt ds v ≠ d := fun e => by
          have hm := (hlv.mem v).2 ⟨(hI.out.inn _ _ hv).2, e⟩
          have hne : s ≠ v := fun e2 => hI.out.irr v (by rw [e2] at hv; exact hv)
          exact h1 v hm ((hI.out.edge s v (by omega) (hI.out.inn _ _ hv).2 hne).2 hv)
        omega
      clear l1 l2
      go_wp2_with fail
      refine wp_region_noPanic ?_
      refine wp_region_held_drew (S := SFrom F w2.heap.size bL d la (lev d).length lc wr) (by kernel_rfl) (KEEP.out _ (below_drewN (Below.refl _ _) 1)) (fun hHeld => ?_)
      refine wpAnyH_take (i := 0) (v := (.func (.func 25) #[] #[.pointer (some ⟨bx, 0, none⟩)])) rfl (by kernel_rfl) (by kernel_rfl) (by kernel_rfl) (fun _ _ _ h => h) (Or.inl ⟨by rfl, ?_⟩) hHeld ?_
      · rintro w ⟨_, ⟨r0, r1, r2, r3, r4, r5⟩, r6⟩
        go_simp
      try simp only [Act.put, List.getElem_toArray, List.getElem_cons_succ, List.getElem_cons_zero, List.setIfInBounds_toArray, List.set_cons_zero, List.set_cons_succ]
      refine wpAnyH_take (i := 1) (v := (.agg #[.slice F.ia F.m F.ic, .int .i64 F.z1, .slice (some ⟨F.g1, 0, none⟩) F.N1 F.N1, .slice F.ba F.nb F.bc, .int .i64 F.z2, .slice (some ⟨F.g2, 0, none⟩) F.N2 F.N2])) rfl (by kernel_rfl) (by kernel_rfl) (by kernel_rfl) (fun _ _ _ h => h) (Or.inl ⟨by rfl, ?_⟩) hHeld ?_
      · rintro w ⟨_, ⟨r0, r1, r2, r3, r4, r5⟩, r6⟩
        go_simp
      try simp only [Act.put, List.getElem_toArray, List.getElem_cons_succ, List.getElem_cons_zero, List.setIfInBounds_toArray, List.set_cons_zero, List.set_cons_succ]
      refine wpAnyH_take (i := 2) (v := (.slice (some ⟨bL, 0, none⟩) nl capL)) rfl (by kernel_rfl) (by kernel_rfl) (by kernel_rfl) (fun _ _ _ h => h) (Or.inl ⟨by rfl, ?_⟩) hHeld ?_
      · rintro w ⟨_, ⟨r0, r1, r2, r3, r4, r5⟩, r6⟩
        go_simp
      try simp only [Act.put, List.getElem_toArray, List.getElem_cons_succ, List.getElem_cons_zero, List.setIfInBounds_toArray, List.set_cons_zero, List.set_cons_succ]
      refine wpAnyH_take (i := 3) (v := (.int .i64 d)) rfl (by kernel_rfl) (by kernel_rfl) (by kernel_rfl) (fun _ _ _ h => h) (Or.inl ⟨by rfl, ?_⟩) hHeld ?_
      · rintro w ⟨_, ⟨r0, r1, r2, r3, r4, r5⟩, r6⟩
        go_simp
      try simp only [Act.put, List.getElem_toArray, List.getElem_cons_succ, List.getElem_cons_zero, List.setIfInBounds_toArray, List.set_cons_zero, List.set_cons_succ]
      refine wpAnyH_take (i := 4) (v := (.pointer (some ⟨bL, d, none⟩))) rfl (by kernel_rfl) (by kernel_rfl) (by kernel_rfl) (fun _ _ _ h => h) (Or.inl ⟨by rfl, ?_⟩) hHeld ?_
      · rintro w ⟨_, ⟨r0, r1, r2, r3, r4, r5⟩, r6⟩
        go_simp
      try simp only [Act.put, List.getElem_toArray, List.getElem_cons_succ, List.getElem_cons_zero, List.setIfInBounds_toArray, List.set_cons_zero, List.set_cons_succ]
      refine wpAnyH_take (i := 5) (v := (.slice la (lev d).length lc)) rfl (by kernel_rfl) (by kernel_rfl) (by kernel_rfl) (fun _ _ _ h => h) (Or.inl ⟨by rfl, ?_⟩) hHeld ?_
      · rintro w ⟨_, ⟨r0, r1, r2, r3, r4, r5⟩, r6⟩
        go_simp
      try simp only [Act.put, List.getElem_toArray, List.getElem_cons_succ, List.getElem_cons_zero, List.setIfInBounds_toArray, List.set_cons_zero, List.set_cons_succ]
      refine wpAnyH_ready (rs := [6]) (by kernel_rfl) (by simp) (AllReadyH.cons rfl (fun K hK => ?_) AllReadyH.nil)
      go_simp
      refine (LS.out _ hHeld.1).mono ?_
      rintro e w5 ⟨⟨hl, _⟩, hb5⟩
      rcases hl with ⟨i, v, h1, rfl, h2, h3⟩ | ⟨rfl, h1⟩
      · have C5 := hidden (FOUND.out i v w5 h1 h2 h3 hb5)
        have B5 := hidden (hbx.out.trans (hb5.mono hbx.out.size))
        dsimp only
        refine hK.out _ _ (KEEP.out _ hb5) (fun hHeld2 => ?_)
        clear hK hHeld h1 h2 h3 hb5
        have hHeld := hHeld2
        clear hHeld2
        try simp only [Act.put, List.getElem_toArray, List.getElem_cons_succ, List.getElem_cons_zero, List.setIfInBounds_toArray, List.set_cons_zero, List.set_cons_succ]
        refine wpAnyH_take (i := 7) (v := (.int .i64 v)) rfl (by kernel_rfl) (by kernel_rfl) (by kernel_rfl) (fun _ _ _ h => h) (Or.inl ⟨by rfl, ?_⟩) hHeld ?_
        · rintro w ⟨_, ⟨r0, r1, r2, r3, r4, r5⟩, r6⟩
          go_simp
        try simp only [Act.put, List.getElem_toArray, List.getElem_cons_succ, List.getElem_cons_zero, List.setIfInBounds_toArray, List.set_cons_zero, List.set_cons_succ]
        refine wpAnyH_done (by kernel_rfl) ?_ _
        refine NoPanic.normal ?_
        clear hHeld KEEP LS FOUND NONE
        go_wp2_with fail
        have hvp : ¬ ((v : Int) < 0) := by omega
        exact ⟨⟨d + 1, by go_num, by omega, by omega, B5, .inr ⟨v, rfl, C5.out.1, hidden C5.out.2⟩⟩, by simp [intOf, hvp]; omega⟩
      · have C5 := hidden (NONE.out w5 h1 hb5)
        have B5 := hidden (hbx.out.trans (hb5.mono hbx.out.size))
        dsimp only
        refine hK.out _ _ (KEEP.out _ hb5) (fun hHeld2 => ?_)
        clear hK hHeld h1 hb5
        have hHeld := hHeld2
        clear hHeld2
        try simp only [Act.put, List.getElem_toArray, List.getElem_cons_succ, List.getElem_cons_zero, List.setIfInBounds_toArray, List.set_cons_zero, List.set_cons_succ]
        refine wpAnyH_take (i := 7) (v := (.int .i64 (-1))) rfl (by kernel_rfl) (by kernel_rfl) (by kernel_rfl) (fun _ _ _ h => h) (Or.inl ⟨by rfl, ?_⟩) hHeld ?_
        · rintro w ⟨_, ⟨r0, r1, r2, r3, r4, r5⟩, r6⟩
          go_simp
        try simp only [Act.put, List.getElem_toArray, List.getElem_cons_succ, List.getElem_cons_zero, List.setIfInBounds_toArray, List.set_cons_zero, List.set_cons_succ]
        refine wpAnyH_done (by kernel_rfl) ?_ _
        refine NoPanic.normal ?_
        clear hHeld KEEP LS FOUND NONE
        go_wp2_with fail
        exact ⟨⟨d + 1, by go_num, by omega, by omega, B5, .inl ⟨rfl, C5⟩⟩, by simp [intOf]; omega⟩
    · have hup : ¬ ((u : Int) < 0) := by omega
      have hub : (0 : Int) ≤ u := by omega
      have C0 : Hid (CycAt E s ds w ([] : List Nat) w.heap.size 1 u wr) := hC
      clear hC CF3 X3 hbx
      go_wp2_with fail
      go_loopw [37, 39] (fun v37 v39 wx => ∃ (l1 : List Nat) (gc cc u : Nat), v37 = .slice (some ⟨gc, 0, none⟩) (l1.length + 1) cc ∧ v39 = .int .i64 u ∧ u < n ∧ Hid (CycAt E s ds w l1 gc cc u wx)) (fun _ v39 _ => (dAt ds (intOf v39).toNat).toNat)
      case atStart => exact ⟨[], w.heap.size, 1, u, rfl, rfl, hu, C0⟩
      case round =>
        clear C0 hup hub hu
        obtain ⟨l1, gc, cc, u, rfl, rfl, hu, hC⟩ := hrel
        have HIx := hidden (hI.out.below hC.out.below)
        have hub : (0 : Int) ≤ u := by omega
        have hun : (u : Int) < n := by omega
        have q0 := cell_of_row wr bDist 0 _ _ _ HIx.out.box
        have q1 := cell_of_row wr bD u _ _ _ HIx.out.dist
        rw [dist_get _ u (by rw [hI.out.dl]; exact hu)] at q1
        simp only [List.getElem?_toArray, List.getElem?_cons_zero] at q0
        by_cases hpos : 0 < dAt ds u
        case neg =>
          have h0 : dAt ds u = 0 := by
            have h1 := hC.out.le
            omega
          go_wp2_with fail
          go_returns
          exact ⟨_, s :: l1, rfl, own_mono hC.out.own h00.out.size, hC.out.pre.final h0, h00.out.trans (hC.out.below.mono h00.out.size)⟩
        obtain ⟨dd, hdd⟩ : ∃ dd : Nat, dAt ds u = dd + 1 := ⟨(dAt ds u).toNat - 1, by omega⟩
        have hddl : (dd : Int) < nl := by have h1 := hI.out.top u; omega
        rw [hdd] at q1
        have HDD := hidden hdd
        obtain ⟨A2, p1, p2, p3⟩ := HIx.out.acc.row u hu
        obtain ⟨la, lc, lg, k1, k2⟩ := HIx.out.levs.row dd (by omega)
        have lenU := hI.out.len u hu
        have hbnd := hC.out.bnd
        have hll : (l1.length : Int) ≤ 2000 := by omega
        have N1 := cell_one_new wr (.int .i64 (u : Int)) 3
        have OW := hidden hC.out.own
        have hszw := hC.out.below.size
        clear hdd hpos hbnd
        go_upto_region 77 with (
          at_builtin
          refine wpList_append_own_at _ rfl _ _ 22 rfl w.heap.size 3 i3 (.int .i64 0) 1 8 Try.underlying22 hi3 z30 z31 z32 rfl (by decide) _ _ _ rfl (OW.out.alloc _) ⟨wr.heap.size, 0, none⟩ 1 1 [.int .i64 (u : Int)] rfl rfl N1 (by simp [Value.oneCell']) (by unfold maxLen; omega) (by omega) (by simp; omega) ?_
          intro v' w3 hown' hgrow hnil hloc
          have hgr := (World.grownBy_alloc wr (.cells #[.int .i64 (u : Int)] 3) (some gc)).trans hgrow
          obtain ⟨g', cap', rfl⟩ := own_form hown'
          have H3 := hidden (And.intro hown' hgr)
          clear hown' hgrow hnil hloc hgr)
        obtain ⟨hown', hgr⟩ := H3.out
        have hb3 : Below w.heap.size w w3 := hC.out.below.grown hgr hC.out.below.size (fun q hq => by cases hq; exact (hC.out.own.lt gc rfl).1)
        have HI3' := hidden (hI.out.below hb3)
        have hbw3 : Below w.heap.size wr w3 := (Below.refl _ wr).grown hgr hszw (fun q hq => by cases hq; exact (hC.out.own.lt gc rfl).1)
        obtain ⟨A3, p1', p2', p3'⟩ := HI3'.out.acc.row u hu
        obtain ⟨la', lc', lg', k1', k2'⟩ := HI3'.out.levs.row dd (by omega)
        have KEEP : Hid (∀ W', Below w3.heap.size w3 W' → SLast A3 bx bA bDist bD bL n u dd la' (lev dd).length lc' w3 W') := hidden fun W' hb => by
          have h1 := HI3'.out.below hb
          have e1 := cell_of_row W' bD u _ _ _ h1.dist
          rw [dist_get _ u (by rw [hI.out.dl]; exact hu), HDD.out] at e1
          exact ⟨hb, cell_of_row W' bx 0 _ _ _ h1.acc.at_, (hb.cell (p := ⟨bA, u * 2, none⟩) HI3'.out.acc.lt.2).trans p1', (hb.cell (p := ⟨bA, u * 2 + 1, none⟩) HI3'.out.acc.lt.2).trans p2', cell_of_row W' bDist 0 _ _ _ h1.box, e1, (hb.cell (p := ⟨bL, dd, none⟩) HI3'.out.levs.lt).trans k1'⟩
        have NC : Hid (∀ W', Below w3.heap.size w3 W' → Calls Try.prog 27 #[.agg #[.slice A3.wa A3.wl A3.wc, .slice A3.ra A3.rl A3.rc]] W' fun e w' => NewPost (ww u) (rr u) W' e w') := hidden fun W' hb =>
          newCf_any w3.heap.size A3 (ww u) (rr u) W' hb.size (hidden (p3'.below hb)) (by have := p3'.wl; omega) (by have := p3'.rl; omega)
        have LS : Hid (∀ (F : CF) (items arr1 bounds arr2 : List Int) (W' : World), Below w3.heap.size w3 W' → CFMem W'.heap.size F (ww u) (rr u) items arr1 bounds arr2 W' → Calls Try.prog 25 #[.agg #[.slice F.ia F.m F.ic, .int .i64 F.z1, .slice (some ⟨F.g1, 0, none⟩) F.N1 F.N1, .slice F.ba F.nb F.bc, .int .i64 F.z2, .slice (some ⟨F.g2, 0, none⟩) F.N2 F.N2], .slice la' (lev dd).length lc', .pointer (some ⟨bx, 0, none⟩)] W' fun e w' => ∃ v : Nat, e = .returned (.int .i64 v) ∧ v < n ∧ CycAt E s ds w (l1 ++ [u]) g' cap' v w' ∧ dAt ds v = dd ∧ Below w3.heap.size w3 w') := hidden fun F items arr1 bounds arr2 W' hb hcf => by
          have h1 := HI3'.out.below hb
          have hlv := hI.out.isLev dd (by omega)
          have hne : ∀ x, x ∈ lev dd → u ≠ x := fun x hx e => by
            have e1 := ((hlv.mem x).1 hx).2
            rw [← e, HDD.out] at e1
            omega
          refine (lowSucc_any W'.heap.size F (ww u) (rr u) items arr1 bounds arr2 ww rr bx bA n la' lc' lg' _ (lev dd) W' (Nat.le_refl _) hn (hidden rfl) (hidden hcf) (hidden h1.acc) (hidden (k2'.below hb)) (hidden fun v hv => ((hlv.mem v).1 hv).1)).mono ?_
          rintro e w' ⟨hl, hb'⟩
          have hbb : Below w3.heap.size w3 w' := hb.trans (hb'.mono hb.size)
          rcases hl with ⟨i, v, a1, rfl, a2, a3⟩ | ⟨rfl, a1⟩
          · have hvm := (hlv.mem v).1 (List.mem_of_getElem? a1)
            have hlow : IsLow E (dAt ds) u dd v := hlv.low hI.out.inn a1 ((hI.out.edge u v hu hvm.1 (hne v (List.mem_of_getElem? a1))).1 a2) (fun j x hj hx hE => a3 j x hj hx ((hI.out.edge u x hu (hI.out.inn _ _ hE).2 (hne x (List.mem_of_getElem? hx))).2 hE))
            have hD := HDD.out
            refine ⟨v, rfl, hvm.1, ⟨?_, hb3.trans (hbb.mono hb3.size), hC.out.pre.step (by omega) (by rw [show dAt ds u - 1 = (dd : Int) by omega]; exact hlow), by have := hC.out.bnd; simp; omega, by omega⟩, hvm.2, hbb⟩
            have ho := own_turned hown' (Turned.of_below hbb (Nat.le_refl _)) (by simp)
            rw [List.length_append]
            rw [show s :: (l1 ++ [u]) = (s :: l1) ++ [u] from rfl, List.map_append]
            exact ho
          · exfalso
            obtain ⟨x, hx1, hx2⟩ := step_down hI.out.isD (u := u) (by have := HDD.out; omega)
            have hxm := (hlv.mem x).2 ⟨(hI.out.inn _ _ hx1).2, by have := HDD.out; omega⟩
            exact a1 x hxm ((hI.out.edge u x hu (hI.out.inn _ _ hx1).2 (hne x hxm)).2 hx1)
        have hsub : IntKind.i64.wrap (dd : Int) = dd := by simp [IntKind.wrap, IntKind.bits, IntKind.signed]; omega
        have hddb : (0 : Int) ≤ dd := by omega
        clear p1 p2 p3 k1 k2 p1' p2' p3' k1' k2' hown' hgr hb3 hbw3 H3 OW N1 q0 q1
        refine wp_region_noPanic ?_
        refine wp_region_held_drew (S := SLast A3 bx bA bDist bD bL n u dd la' (lev dd).length lc' w3) (by kernel_rfl) (KEEP.out _ (below_drewN (Below.refl _ _) 1)) (fun hHeld => ?_)
        refine wpAnyH_take (i := 0) (v := (.func (.func 25) #[] #[.pointer (some ⟨bx, 0, none⟩)])) rfl (by kernel_rfl) (by kernel_rfl) (by kernel_rfl) (fun _ _ _ h => h) (Or.inl ⟨by rfl, ?_⟩) hHeld ?_
        · rintro w ⟨_, r0, r1, r2, r3, r4, r5⟩
          go_simp
        try simp only [Act.put, List.getElem_toArray, List.getElem_cons_succ, List.getElem_cons_zero, List.setIfInBounds_toArray, List.set_cons_zero, List.set_cons_succ]
        refine wpAnyH_take (i := 1) (v := (.slice (some ⟨bA, 0, none⟩) n n)) rfl (by kernel_rfl) (by kernel_rfl) (by kernel_rfl) (fun _ _ _ h => h) (Or.inl ⟨by rfl, ?_⟩) hHeld ?_
        · rintro w ⟨_, r0, r1, r2, r3, r4, r5⟩
          go_simp
        try simp only [Act.put, List.getElem_toArray, List.getElem_cons_succ, List.getElem_cons_zero, List.setIfInBounds_toArray, List.set_cons_zero, List.set_cons_succ]
        refine wpAnyH_take (i := 2) (v := (.int .i64 u)) rfl (by kernel_rfl) (by kernel_rfl) (by kernel_rfl) (fun _ _ _ h => h) (Or.inl ⟨by rfl, ?_⟩) hHeld ?_
        · rintro w ⟨_, r0, r1, r2, r3, r4, r5⟩
          go_simp
        try simp only [Act.put, List.getElem_toArray, List.getElem_cons_succ, List.getElem_cons_zero, List.setIfInBounds_toArray, List.set_cons_zero, List.set_cons_succ]
        refine wpAnyH_take (i := 3) (v := (.pointer (some ⟨bA, u * 2, none⟩))) rfl (by kernel_rfl) (by kernel_rfl) (by kernel_rfl) (fun _ _ _ h => h) (Or.inl ⟨by rfl, ?_⟩) hHeld ?_
        · rintro w ⟨_, r0, r1, r2, r3, r4, r5⟩
          go_simp
        try simp only [Act.put, List.getElem_toArray, List.getElem_cons_succ, List.getElem_cons_zero, List.setIfInBounds_toArray, List.set_cons_zero, List.set_cons_succ]
        refine wpAnyH_take (i := 4) (v := (.agg #[.slice A3.wa A3.wl A3.wc, .slice A3.ra A3.rl A3.rc])) rfl (by kernel_rfl) (by kernel_rfl) (by kernel_rfl) (fun _ _ _ h => h) (Or.inl ⟨by rfl, ?_⟩) hHeld ?_
        · rintro w ⟨_, r0, r1, r2, r3, r4, r5⟩
          go_simp
        try simp only [Act.put, List.getElem_toArray, List.getElem_cons_succ, List.getElem_cons_zero, List.setIfInBounds_toArray, List.set_cons_zero, List.set_cons_succ]
        refine wpAnyH_take (i := 6) (v := (.slice (some ⟨bL, 0, none⟩) nl capL)) rfl (by kernel_rfl) (by kernel_rfl) (by kernel_rfl) (fun _ _ _ h => h) (Or.inl ⟨by rfl, ?_⟩) hHeld ?_
        · rintro w ⟨_, r0, r1, r2, r3, r4, r5⟩
          go_simp
        try simp only [Act.put, List.getElem_toArray, List.getElem_cons_succ, List.getElem_cons_zero, List.setIfInBounds_toArray, List.set_cons_zero, List.set_cons_succ]
        refine wpAnyH_take (i := 7) (v := (.slice (some ⟨bD, 0, none⟩) n n)) rfl (by kernel_rfl) (by kernel_rfl) (by kernel_rfl) (fun _ _ _ h => h) (Or.inl ⟨by rfl, ?_⟩) hHeld ?_
        · rintro w ⟨_, r0, r1, r2, r3, r4, r5⟩
          go_simp
        try simp only [Act.put, List.getElem_toArray, List.getElem_cons_succ, List.getElem_cons_zero, List.setIfInBounds_toArray, List.set_cons_zero, List.set_cons_succ]
        refine wpAnyH_take (i := 8) (v := (.int .i64 u)) rfl (by kernel_rfl) (by kernel_rfl) (by kernel_rfl) (fun _ _ _ h => h) (Or.inl ⟨by rfl, ?_⟩) hHeld ?_
        · rintro w ⟨_, r0, r1, r2, r3, r4, r5⟩
          go_simp
        try simp only [Act.put, List.getElem_toArray, List.getElem_cons_succ, List.getElem_cons_zero, List.setIfInBounds_toArray, List.set_cons_zero, List.set_cons_succ]
        refine wpAnyH_take (i := 9) (v := (.pointer (some ⟨bD, u, none⟩))) rfl (by kernel_rfl) (by kernel_rfl) (by kernel_rfl) (fun _ _ _ h => h) (Or.inl ⟨by rfl, ?_⟩) hHeld ?_
        · rintro w ⟨_, r0, r1, r2, r3, r4, r5⟩
          go_simp
        try simp only [Act.put, List.getElem_toArray, List.getElem_cons_succ, List.getElem_cons_zero, List.setIfInBounds_toArray, List.set_cons_zero, List.set_cons_succ]
        refine wpAnyH_take (i := 10) (v := (.int .i64 ((dd : Int) + 1))) rfl (by kernel_rfl) (by kernel_rfl) (by kernel_rfl) (fun _ _ _ h => h) (Or.inl ⟨by rfl, ?_⟩) hHeld ?_
        · rintro w ⟨_, r0, r1, r2, r3, r4, r5⟩
          go_simp
        try simp only [Act.put, List.getElem_toArray, List.getElem_cons_succ, List.getElem_cons_zero, List.setIfInBounds_toArray, List.set_cons_zero, List.set_cons_succ]
        refine wpAnyH_take (i := 11) (v := (.int .i64 (dd : Int))) rfl (by kernel_rfl) (by kernel_rfl) (by kernel_rfl) (fun _ _ _ h => h) (Or.inl ⟨by rfl, ?_⟩) hHeld ?_
        · rintro w ⟨_, r0, r1, r2, r3, r4, r5⟩
          go_simp
        try simp only [Act.put, List.getElem_toArray, List.getElem_cons_succ, List.getElem_cons_zero, List.setIfInBounds_toArray, List.set_cons_zero, List.set_cons_succ]
        refine wpAnyH_take (i := 12) (v := (.pointer (some ⟨bL, dd, none⟩))) rfl (by kernel_rfl) (by kernel_rfl) (by kernel_rfl) (fun _ _ _ h => h) (Or.inl ⟨by rfl, ?_⟩) hHeld ?_
        · rintro w ⟨_, r0, r1, r2, r3, r4, r5⟩
          go_simp
        try simp only [Act.put, List.getElem_toArray, List.getElem_cons_succ, List.getElem_cons_zero, List.setIfInBounds_toArray, List.set_cons_zero, List.set_cons_succ]
        refine wpAnyH_take (i := 13) (v := (.slice la' (lev dd).length lc')) rfl (by kernel_rfl) (by kernel_rfl) (by kernel_rfl) (fun _ _ _ h => h) (Or.inl ⟨by rfl, ?_⟩) hHeld ?_
        · rintro w ⟨_, r0, r1, r2, r3, r4, r5⟩
          go_simp
        try simp only [Act.put, List.getElem_toArray, List.getElem_cons_succ, List.getElem_cons_zero, List.setIfInBounds_toArray, List.set_cons_zero, List.set_cons_succ]
        refine wpAnyH_ready (rs := [5]) (by kernel_rfl) (by simp) (AllReadyH.cons rfl (fun K hK => ?_) AllReadyH.nil)
        go_simp
        refine (NC.out _ hHeld.1).mono ?_
        rintro e w5 ⟨⟨F2, items2, arr12, bounds2, arr22, rfl, hcf⟩, hb5⟩
        have hB5 : Below w3.heap.size w3 w5 := hHeld.1.trans (hb5.mono hHeld.1.size)
        unfold CF.val
        dsimp only
        refine hK.out _ _ (KEEP.out _ hB5) (fun hHeld2 => ?_)
        clear hK hHeld hb5 hB5
        have hHeld := hHeld2
        clear hHeld2
        try simp only [Act.put, List.getElem_toArray, List.getElem_cons_succ, List.getElem_cons_zero, List.setIfInBounds_toArray, List.set_cons_zero, List.set_cons_succ]
        refine wpAnyH_ready (rs := [14]) (by kernel_rfl) (by simp) (AllReadyH.cons rfl (fun K hK => ?_) AllReadyH.nil)
        go_simp
        refine (LS.out F2 items2 arr12 bounds2 arr22 w5 hHeld.1 hcf).mono ?_
        rintro e w6 ⟨v, rfl, hvn, hcyc, hdv, hb6⟩
        dsimp only
        refine hK.out _ _ (KEEP.out _ hb6) (fun hHeld2 => ?_)
        have C6 := hidden hcyc
        clear hK hHeld hb6 hcf hcyc
        have hHeld := hHeld2
        clear hHeld2
        try simp only [Act.put, List.getElem_toArray, List.getElem_cons_succ, List.getElem_cons_zero, List.setIfInBounds_toArray, List.set_cons_zero, List.set_cons_succ]
        refine wpAnyH_take (i := 15) (v := (.int .i64 v)) rfl (by kernel_rfl) (by kernel_rfl) (by kernel_rfl) (fun _ _ _ h => h) (Or.inl ⟨by rfl, ?_⟩) hHeld ?_
        · rintro w ⟨_, r0, r1, r2, r3, r4, r5⟩
          go_simp
        try simp only [Act.put, List.getElem_toArray, List.getElem_cons_succ, List.getElem_cons_zero, List.setIfInBounds_toArray, List.set_cons_zero, List.set_cons_succ]
        refine wpAnyH_done (by kernel_rfl) ?_ _
        refine NoPanic.normal ?_
        clear hHeld KEEP LS NC
        go_wp2_with fail
        refine ⟨⟨l1 ++ [u], g', cap', v, by simp, rfl, hvn, C6⟩, ?_⟩
        have := HDD.out
        simp [intOf, hdv]
        omega

end Go.Proofs.Qxb6612201a
