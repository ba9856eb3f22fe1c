/-
  WALK: the law 4, whole.
-/
import Derived.Test.Qxb6612201aTail4
namespace Go.Proofs.Qxb6612201a
open Go.RowKit Go.Shelf
set_option linter.unusedVariables false
set_option linter.unusedSimpArgs false

set_option maxHeartbeats 25600000 in
set_option maxRecDepth 1000000 in
theorem law4_any (l0 c0 l1 c1 l2 c2 l3 c3 l4 c4 l5 c5 l6 c6 l7 c7 : Nat) (a0 a1 a2 a3 a4 a5 a6 a7 : Option Addr) (z0 z1 z2 z3 z4 z5 z6 z7 : List Int) (items s : Int) (w : World)
    (hS0 : Hid (Src .i64 w a0 l0 c0 z0)) (hS1 : Hid (Src .i64 w a1 l1 c1 z1)) (hS2 : Hid (Src .i64 w a2 l2 c2 z2)) (hS3 : Hid (Src .i64 w a3 l3 c3 z3)) (hS4 : Hid (Src .u64 w a4 l4 c4 z4)) (hS5 : Hid (Src .i8 w a5 l5 c5 z5)) (hS6 : Hid (Src .i64 w a6 l6 c6 z6)) (hS7 : Hid (Src .i64 w a7 l7 c7 z7)) :
    Calls Try.prog 4 #[.slice a0 l0 c0, .slice a1 l1 c1, .slice a2 l2 c2, .slice a3 l3 c3, .slice a4 l4 c4, .slice a5 l5 c5, .slice a6 l6 c6, .slice a7 l7 c7, .int .i64 items, .int .i64 s] w fun e w' => e = .returned (.bool true) ∧ Below w.heap.size w w' := by
  go_enter Try.func4, Try.ntmps4
  refine (show Code.wp Try.prog (b4 Try.f4) _ _ w from head4_any l0 c0 l1 c1 l2 c2 l3 c3 l4 c4 l5 c5 l6 c6 l7 c7 a0 a1 a2 a3 a4 a5 a6 a7 z0 z1 z2 z3 z4 z5 z6 z7 items s w hS0 hS1 hS2 hS3 hS4 hS5 hS6 hS7 _ _ _ _ _ _ _ _ _ _ _ _ _ _ _ _ _ _ _ _ _ _ _ _ _ _ _ _ _ _ _ _ _ _ _ _ _ _ _ _ _ _ _ _ _ _ _ _ _ _ _ _ _ _ _ _ _ _ _ _ _ _ _ _ _ _ _ _ _ _ _ _ _ _ _ _ _ _ _ _ _ _ _ _ _ _ _ _ _ _ _ _ _ _ _ _ _ _ _ _ _ _ _ _ _ _ _ _ _ _ _ _ _ _ _ _ _ _ _ _ _ _ _ _ _ _ _ _ _ _ _ _ _ _ _ _ _ _ _ _ _ _ _ _ _ _ _ _ _ _ _ _ _ _ _ _ _ _ _ _ _ _ _ _ _ _ _ _ _ _ _ _ _ _ _ _ _ _ _ _ _ _ _ _ _ _ _ _ _ _ _ _ _ _ _ _ _ _ _ _ _ _ _ _ _ _ _ _ _ _ _ _ _ _ _ _ _ _ _ _ _ _ _ _ _ _ _ _ _ _ _ _ _ _ _ _ _ _ _ _ _ _ _ _ _ _ _ _ _ _ _ _ _ _ _ _ _ _ _ _ _ _ _ _ _ _ _ _ _ _ _ _ _ _ _ _ _ _ _ _ _ _ _ _ _ _ _ _ _ _ _ _ _ _ _ _ _ _ _ _ _ _ _ _ _ _ _ _ _ _ _ _ _ _ _ _ _ _ _ _ _ _ _ _ _ (hidden ?_))
  intro w' v0 v1 v2 v3 v4 v5 v6 v7 x20 x21 x22 x23 x24 x25 x26 x27 x28 x39 x40 x41 x42 x43 x44 x45 x46 x47 x48 x49 x50 x51 x52 x53 x54 x55 x56 x57 x58 x59 x60 x61 x62 x63 x64 x65 x66 x67 x68 x69 x70 x71 x72 x73 x74 x75 x76 x77 x78 x79 x80 x81 x82 x83 x84 x85 x86 x87 x88 x89 x90 x91 x92 x93 x94 x95 x96 x97 x98 x99 x100 x101 x102 x103 x104 x105 x106 x107 x108 x109 x110 x111 x112 x113 x114 x115 x116 x117 x118 x119 x120 x121 x122 x123 x124 x125 x126 x127 x128 x129 x130 x131 x132 x133 x134 x135 x136 x137 x138 x139 x140 x141 x142 x143 x144 x145 x146 x147 x148 x149 x150 x151 x152 x153 x154 x155 x156 x157 x158 x159 x160 x161 x162 x163 x164 x165 x166 x167 x168 x169 x170 x171 x172 x173 x174 x175 x176 x177 x178 x179 x180 x181 x182 x183 x184 x185 x186 x187 x188 x189 ht C0 C1 C2 C3 C4 C5 C6 C7 d0 d1 d2 d3 d4 d5 i0 i1
  obtain ⟨b0', q0, g0, rfl, R0⟩ := C0
  obtain ⟨b1', q1, g1, rfl, R1⟩ := C1
  obtain ⟨b2', q2, g2, rfl, R2⟩ := C2
  obtain ⟨b3', q3, g3, rfl, R3⟩ := C3
  obtain ⟨b4', q4, g4, rfl, R4⟩ := C4
  obtain ⟨b5', q5, g5, rfl, R5⟩ := C5
  obtain ⟨b6', q6, g6, rfl, R6⟩ := C6
  obtain ⟨b7', q7, g7, rfl, R7⟩ := C7
  exact tail4_any ⟨z0, z1, z2, z3, z5⟩ l0 q0 l1 q1 l2 q2 l3 q3 l4 q4 l5 q5 l6 q6 l7 q7 g0 g1 g2 g3 g5 b0' b1' b2' b3' b4' b5' b6' b7' items s w w' (hidden (ht.below (Nat.le_refl _) (by simp))) (hidden R0) (hidden R1) (hidden R2) (hidden R3) (hidden R5) d0 d4 i0 i1 _ _ _ _ _ _ _ _ _ _ _ _ _ _ _ _ _ _ _ _ _ _ _ _ _ _ _ _ _ _ _ _ _ _ _ _ _ _ _ _ _ _ _ _ _ _ _ _ _ _ _ _ _ _ _ _ _ _ _ _ _ _ _ _ _ _ _ _ _ _ _ _ _ _ _ _ _ _ _ _ _ _ _ _ _ _ _ _ _ _ _ _ _ _ _ _ _ _ _ _ _ _ _ _ _ _ _ _ _ _ _ _ _ _ _ _ _ _ _ _ _ _ _ _ _ _ _ _ _ _ _ _ _ _ _ _ _ _ _ _ _ _ _ _ _ _ _ _ _ _ _ _ _ _ _ _ _ _ _ _ _ _ _ _ _ _ _ _ _ _ _ _ _ _ _ _ _ _ _ _ _ _ _ _ _ _ _ _ _ _ _ _ _ _ _ _ _ _ _ _ _ _ _ _ _ _ _ _ _ _ _ _ _ _ _ _ _ _ _ _ _ _ _ _ _ _ _ _ _ _ _ _ _ _ _ _ _ _ _ _ _ _ _ _ _ _ _ _ _ _ _ _ _ _ _ _ _ _ _ _ _ _ _ _ _ _ _ _ _ _ _ _ _ _ _ _ _ _ _ _ _ _ _ _ _ _ _ _ _ _ _ _ _ _ _ _ _ _ _ _ _ _ _ _ _ _ _ _ _ _ _ _ _ _ _ _ _ _ _ _ _ _ _ _ _

/-- What came in, as the walk asks of it. -/
theorem Src.of4 {k : IntKind} {w : World} {a : Option Addr} {len cap : Nat} {zs : List Int} (h : (a = none ∧ len = 0 ∧ cap = 0 ∧ zs = []) ∨ ∃ x, a = some x ∧ len ≤ cap ∧ cap ≤ maxLen ∧ zs.length = cap ∧ (∀ i, i < zs.length → w.cell? (x.add i) = some (.int k (zs.getD i 0))) ∧ ∀ n ∈ zs, (Lit.int k n).wf = true) : Src k w a len cap (zs.take len) := by
  rcases h with ⟨rfl, rfl, rfl, rfl⟩ | ⟨x, rfl, h1, _, h2, h3, _⟩
  · exact ⟨rfl, fun _ => ⟨rfl, rfl⟩, fun h => absurd h (Nat.lt_irrefl 0)⟩
  · refine ⟨by rw [List.length_take]; omega, (fun h => by cases h), fun _ => ⟨x, rfl, fun j z hj => ?_⟩⟩
    rw [List.getElem?_take] at hj
    split at hj
    · have hlt := (List.getElem?_eq_some_iff.1 hj).1
      rw [h3 j hlt, List.getD_eq_getElem?_getD, hj]
      rfl
    · cases hj

end Go.Proofs.Qxb6612201a
