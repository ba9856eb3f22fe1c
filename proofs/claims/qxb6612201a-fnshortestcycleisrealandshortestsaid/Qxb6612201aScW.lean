/-
  WALK: shortestCycle (14), whole; ZZshortestCycle (11).
-/
import Derived.Test.Qxb6612201aTopW
import Derived.Test.Qxb6612201aMidW
import Derived.Test.Qxb6612201aZzW
namespace Go.Proofs.Qxb6612201a
open Go.RowKit Go.Shelf
set_option linter.unusedVariables false
set_option linter.unusedSimpArgs false

set_option maxHeartbeats 25600000 in
set_option maxRecDepth 1000000 in
theorem sc_any (h : Hist) (n items s m gOps gO : Nat) (c3 c4 : Value) (ta : Option Addr) (tc : Nat) (w : World) (hn : (n : Int) ≤ 1024) (hs : (s : Int) < n) (hit : (items : Int) ≤ 65536) (hm : Hid (m ≤ 1024))
    (hops : Hid (gOps < w.heap.size ∧ ∀ i, i < m → w.cell? ⟨gOps, i * 4, none⟩ = some (.int .i64 (iAt h.ks i)) ∧ w.cell? ⟨gOps, i * 4 + 1, none⟩ = some (.int .i64 (iAt h.ts i)) ∧ w.cell? ⟨gOps, i * 4 + 2, none⟩ = some (.int .i64 (iAt h.los i)) ∧ w.cell? ⟨gOps, i * 4 + 3, none⟩ = some (.int .i64 (iAt h.his i))))
    (hocs : Hid (gO < w.heap.size ∧ ∀ i, i < n → w.cell? ⟨gO, i, none⟩ = some (.int .i8 (iAt h.ocs i))))
    (S : Hid (∀ i, i < m → OpOk n items (iAt h.ks i) (iAt h.ts i) (iAt h.los i) (iAt h.his i)))
    (hon : Hid (∀ d : Nat → Int, IsDist (fun a b => h.Edge m b a) s d → ∃ v, h.Edge m s v ∧ 0 ≤ d v)) :
    Calls Try.prog 14 #[.agg #[.slice (some ⟨gOps, 0, none⟩) m m, .slice ta n tc, .slice (some ⟨gO, 0, none⟩) n n, c3, c4, .int .i64 (items : Int)], .int .i64 (s : Int)] w fun e w' => ∃ ds : List Int, IsDist (fun a b => h.Edge m b a) s (dAt ds) ∧ EndPost (h.Edge m) s ds w e w' := by
  go_enter Try.func14, Try.ntmps14
  refine (show Code.wp Try.prog (b14 Try.f14) _ _ w from top_any h n items s m gOps gO c3 c4 ta tc w _ hn hit hm hops hocs S _ _ _ _ _ _ _ _ _ _ _ _ _ _ _ _ _ _ _ _ _ _ _ _ _ _ _ _ _ _ _ _ _ _ _ _ _ _ _ _ _ _ _ _ _ _ _ _ _ _ _ _ _ _ _ _ _ _ _ _ _ _ _ _ _ _ _ _ _ _ _ _ _ _ _ _ _ _ _ _ _ _ _ _ _ _ _ _ _ _ _ _ _ _ _ _ _ _ _ _ _ _ _ _ _ _ _ _ _ _ _ _ _ _ _ _ _ _ _ _ _ _ _ _ _ _ _ _ _ _ _ _ _ _ _ _ _ _ _ _ _ _ _ _ _ _ _ _ _ _ _ _ _ _ _ _ _ _ _ _ _ _ _ _ _ _ _ _ _ _ _ _ _ _ _ _ _ _ _ _ _ _ _ _ _ _ _ _ _ _ _ _ _ _ _ _ _ _ _ _ _ _ _ _ _ _ _ _ _ _ _ _ _ _ _ _ _ _ _ _ _ _ _ _ _ _ _ _ _ _ _ _ _ _ _ _ _ _ _ _ _ _ _ _ _ _ _ _ _ _ _ _ _ _ _ _ _ _ _ _ _ _ _ _ _ _ _ _ _ _ _ _ _ _ _ _ _ _ _ _ _ _ _ _ _ _ _ _ _ _ _ _ _ _ _ _ _ _ _ _ _ _ _ _ _ _ _ _ _ _ _ _ _ _ _ _ _ _ _ _ _ _ _ _ _ _ _ _ _ _ _ _ _ _ _ _ _ _ _ _ _ _ _ _ _ _ _ _ _ _ _ _ _ (hidden ?_))
  intro W z N H bh bTree bx bA bWrb bW bRdb bR L y4 y9 y10 y11 y12 y13 y14 y41 y42 y43 y44 y45 y46 y47 y48 y49 y50 y51 y52 y53 y54 y55 y56 y57 y58 y59 y60 y61 y62 y63 y64 y65 y66 y67 y68 y69 y70 y71 y72 y73 y74 y75 y76 y77 y78 y79 y80 y81 y82 y83 y84 y85 y86 y87 y88 y89 y90 y91 y92 y93 y94 y95 y96 y97 y98 y99 y100 y101 y102 y103 y104 y105 y106 y107 y108 y109 y110 y111 y112 y113 y114 y115 y116 y117 y118 y119 y120 y121 y122 y123 y124 y125 y126 y127 y128 y129 y130 y131 y132 y133 y134 y135 y136 y137 y138 y139 y140 y141 y142 y143 y144 y145 y146 y147 y148 y149 y150 y151 y152 y153 y154 y155 y156 y157 y158 y159 y160 y161 y162 y163 y164 y165 y166 y167 y168 y169 y170 y171 y172 y173 y174 hb hPz hzH hN hz hacc htw htr htree hbox hT hS hiz
  exact mid_any h n z N items H m s bh bx bA bTree bWrb bW bRdb bR L _ _ c3 c4 ta tc w W (hidden hb) hn hs (by omega) hit (hidden hN) (hidden hPz) (hidden htw) (hidden htr.at_) (by omega) (hidden hbox) (hidden fun K e1 e2 e3 e4 e5 => by
    obtain ⟨kn, kz, kN, ki, kB, k6, k7, k8, k9, k10, k11, k12, k13, k14, k15, k16, k17⟩ := K
    simp only at e1 e2 e3 e4 e5
    subst e1 e2 e3 e4 e5
    exact ⟨hacc, htw, htr, htree, hT, hS, hzH, hN, hiz, hm.out⟩) hon _ _ _ _ _ _ _ _ _ _ _ _ _ _ _ _ _ _ _ _ _ _ _ _ _ _ _ _ _ _ _ _ _ _ _ _ _ _ _ _ _ _ _ _ _ _ _ _ _ _ _ _ _ _ _ _ _ _ _ _ _ _ _ _ _ _ _ _ _ _ _ _ _ _ _ _ _ _ _ _ _ _ _ _ _ _ _ _ _ _ _ _ _ _ _ _ _ _ _ _ _ _ _ _ _ _ _ _ _ _ _ _ _ _ _ _ _ _ _ _ _ _ _ _ _ _ _ _ _ _ _ _ _ _ _ _ _ _ _ _ _ _ _ _ _ _ _ _ _ _ _ _ _ _ _ _ _ _ _ _ _ _ _ _ _ _ _ _ _ _ _ _ _ _ _ _ _ _ _ _ _ _ _ _ _ _ _ _ _ _ _ _ _ _ _ _ _ _ _ _ _ _ _ _ _ _ _ _ _ _ _ _ _ _ _ _ _ _ _ _ _ _ _ _ _ _ _ _ _ _ _ _ _ _ _ _ _ _ _ _ _ _ _ _ _ _ _ _ _ _ _ _ _ _ _ _ _ _ _ _ _ _ _ _ _ _ _ _ _ _ _ _ _ _ _ _ _ _ _ _ _ _ _ _ _ _ _ _ _ _ _ _ _ _ _ _ _ _ _ _ _ _ _ _ _ _ _ _ _ _ _ _ _ _ _ _ _ _ _ _ _ _ _ _ _ _ _ _ _ _ _ _ _ _ _ _ _ _ _ _ _ _ _ _ _ _ _ _ _

end Go.Proofs.Qxb6612201a
