/-
  COPIES: 'zzc := make([]T, n); copy(zzc, xs)': what the laws of this seat ask of it.
-/
import Derived.Test.Qxb6612201aWellW
import Derived.Test.Qxb6612201aReachW
import Derived.Test.Qxb6612201aOpenW
import Derived.Laws.CopyOwn
namespace Go.Proofs.Qxb6612201a
open Go.RowKit Go.Shelf
set_option linter.unusedVariables false
set_option linter.unusedSimpArgs false

def b3 (f : Func) : Code := f.body.getD .skip
def b4 (f : Func) : Code := f.body.getD .skip

theorem grown_setRow (w : World) (g : Nat) (cs : Array Value) : w.grownBy (w.setRow g cs) (some g) :=
  ⟨rfl, rfl, rfl, by simp [World.setRow], fun k _ hne => setRow_other w g k cs (fun h => hne (by rw [h]))⟩

/-- THE RUN OF copy onto a row of the call's own, from a source of m cells. -/
theorem run_copy_full {P : Program} (w : World) (T ty e : TypeId) (hu : P.underlying T = some (.slice e)) (hsz : (P.info? e).map (·.size) = some 1)
    (base n g cap : Nat) (zs : List Value) (hown : w.ownsRow base e 1 (.slice (some ⟨g, 0, none⟩) n cap) n zs)
    (sp : Option Addr) (m sCap : Nat) (cs : List Value) (hm : cs.length = m) (hmn : m ≤ n)
    (hsrc : 0 < m → ∃ ad, sp = some ad ∧ ∀ j v, cs[j]? = some v → w.cell? (ad.add j) = some v) (h1 : ∀ v ∈ cs, v.oneCell' = true) :
    ∃ w', (Builtin.copy_ #[T, T] ty #[.slice (some ⟨g, 0, none⟩) n cap, .slice sp m sCap]).run P w = .ok (goInt m) w' ∧
      w'.ownsRow base e 1 (.slice (some ⟨g, 0, none⟩) n cap) n (cs ++ zs.drop m) ∧ w.grownBy w' (some g) := by
  obtain ⟨hl, ⟨hv, _⟩ | ⟨g', cap', cur, hv, hb, hg, hnc, hcm, hcs, htk⟩⟩ := hown
  · cases hv
  obtain ⟨rfl, rfl⟩ : g = g' ∧ cap = cap' := by simpa using hv
  simp only [Nat.mul_one] at hl hcs htk
  by_cases h0 : m = 0
  · obtain rfl : cs = [] := List.eq_nil_of_length_eq_zero (by omega)
    subst h0
    refine ⟨w, run_copy_none (P := P) w T T ty e (some ⟨g, 0, none⟩) sp n cap 0 sCap hu hsz (by simp), ?_, World.grownBy.refl w _⟩
    simpa using ⟨by simpa using hl, Or.inr ⟨g, cap, cur, rfl, hb, hg, hnc, hcm, by simpa using hcs, by simpa using htk⟩⟩
  · obtain ⟨ad, rfl, hc⟩ := hsrc (by omega)
    have hcur : cur.toList.length = cap := by simpa using hcs
    have hr := run_copy_row (P := P) w T T ty e g 0 n cap ad m sCap cur e cs hu hsz hg (by rw [hm]; exact (Nat.min_eq_left hmn).symm) hc (by omega) h1
    rw [hm] at hr
    refine ⟨_, hr, ?_, grown_setRow w g _⟩
    refine ⟨?_, Or.inr ⟨g, cap, _, rfl, hb, setRow_heap w g _ _ e _ hg, hnc, hcm, ?_, ?_⟩⟩
    · simp only [List.length_append, List.length_drop]; omega
    · simp only [List.size_toArray, List.length_append, List.length_take, List.length_drop]; omega
    · rw [← htk]
      simp only [List.take_zero, List.nil_append, Nat.zero_add, Nat.mul_one]
      rw [List.take_append, List.take_of_length_le (by omega), hm, List.drop_take]

theorem Try.info111 : (Try.prog.info? 111).map (fun i => (i.zero, i.size, i.bytes)) = some (some (.int .u64 0), 1, 8) := by kernel_rfl
theorem Try.info33 : (Try.prog.info? 33).map (fun i => (i.zero, i.size, i.bytes)) = some (some (.int .i8 0), 1, 1) := by kernel_rfl
theorem Try.size3 : (Try.prog.info? 3).map (·.size) = some 1 := by kernel_rfl
theorem Try.size111 : (Try.prog.info? 111).map (·.size) = some 1 := by kernel_rfl
theorem Try.size33 : (Try.prog.info? 33).map (·.size) = some 1 := by kernel_rfl

/-- A slice of integers that came in. -/
structure Src (q : IntKind) (w : World) (a : Option Addr) (n c : Nat) (zs : List Int) : Prop where
  len : zs.length = n
  nil : a = none → n = 0 ∧ c = 0
  at_ : 0 < n → ∃ ad, a = some ad ∧ ∀ j z, zs[j]? = some z → w.cell? (ad.add j) = some (.int q z)

theorem Src.turned {q : IntKind} {w w' : World} {a : Option Addr} {n c : Nat} {zs : List Int} (h : Src q w a n c zs) (ht : Turned [] w w') : Src q w' a n c zs :=
  ⟨h.len, h.nil, fun hn => by
    obtain ⟨ad, h1, h2⟩ := h.at_ hn
    exact ⟨ad, h1, fun j z hj => ht.cell (h2 j z hj) (by simp)⟩⟩

theorem ints_one (q : IntKind) (zs : List Int) : ∀ v ∈ zs.map (Value.int q), v.oneCell' = true := by
  intro v hv
  obtain ⟨z, _, rfl⟩ := List.mem_map.1 hv
  rfl

theorem Src.src {q : IntKind} {w w1 : World} {a : Option Addr} {n c : Nat} {zs : List Int} (h : Src q w a n c zs) (hg : w.grownBy w1 none) :
    0 < n → ∃ ad, a = some ad ∧ ∀ j v, (zs.map (Value.int q))[j]? = some v → w1.cell? (ad.add j) = some v := by
  intro hn
  obtain ⟨ad, hx, hc⟩ := h.at_ hn
  refine ⟨ad, hx, fun j v hj => ?_⟩
  rw [List.getElem?_map] at hj
  obtain ⟨z, hz, rfl⟩ := Option.map_eq_some_iff.1 hj
  exact hg.cell (hc j z hz) (by simp)

theorem made_zeros (z : Value) (hz : z.cells = #[z]) (n : Nat) : (madeCells z.cells (n * 1)).toList = List.replicate n z := by
  rw [hz, Nat.mul_one, toList_madeCells_one]

/-- The slice v holds a copy. -/
def Copied (q : IntKind) (n : Nat) (zs : List Int) (v : Value) (w : World) : Prop := ∃ (a : Option Addr) (c g : Nat), v = .slice a n c ∧ Row w q a g n zs

theorem Copied.nil (q : IntKind) (w : World) : Copied q 0 [] (.slice none 0 0) w := ⟨none, 0, 0, rfl, rfl, fun h => absurd h (Nat.lt_irrefl 0)⟩

theorem Copied.turned {q : IntKind} {n : Nat} {zs : List Int} {v : Value} {w w' : World} (h : Copied q n zs v w) (ht : Turned [] w w') : Copied q n zs v w' := by
  obtain ⟨a, c, g, rfl, h1, h2⟩ := h
  exact ⟨a, c, g, rfl, h1, fun hn => by
    obtain ⟨r1, r2, r3⟩ := h2 hn
    exact ⟨r1, Nat.lt_of_lt_of_le r2 ht.size, fun j hj => ht.cell (r3 j hj) (by simp)⟩⟩

theorem Copied.own {q : IntKind} {n g cap base e : Nat} {zs : List Int} {w : World} (h : w.ownsRow base e 1 (.slice (some ⟨g, 0, none⟩) n cap) n (zs.map (Value.int q))) (hl : zs.length = n) : Copied q n zs (.slice (some ⟨g, 0, none⟩) n cap) w := by
  refine ⟨_, _, g, rfl, hl, fun hn => ⟨rfl, (h.lt g rfl).2, fun j hj => ?_⟩⟩
  rw [h.cellAt j (by omega), List.getElem?_map]
  unfold iAt
  rw [List.getD_eq_getElem?_getD, List.getElem?_eq_getElem (by omega)]
  rfl

end Go.Proofs.Qxb6612201a
