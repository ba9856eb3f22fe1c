/-
  'zzc := make([]T, n); copy(zzc, xs)': a row of the call's own that holds what xs holds.
-/
import Derived.Test.Qxb6612277aFmtProg
import Derived.WalkKit
import Derived.WalkSpells
import Derived.Laws.CopyOwn
namespace Go.Proofs.Qxb6612277aFmt
open Go.RowKit

theorem grown_setRow (w : World) (g : Nat) (cs : Array Value) : w.grownBy (w.setRow g cs) (some g) :=
  ⟨rfl, rfl, rfl, by simp [World.setRow], fun k _ hne => setRow_other w g k cs (fun h => hne (by rw [h]))⟩

/-- THE RUN OF copy onto a row of the call's own, from a source of m cells. -/
theorem run_copy_full {P : Program} (w : World) (T ty e : TypeId) (hu : P.underlying T = some (.slice e)) (hsz : (P.info? e).map (·.size) = some 1)
    (base n g cap : Nat) (zs : List Value) (hown : w.ownsRow base e 1 (.slice (some ⟨g, 0, none⟩) n cap) n zs)
    (sp : Option Addr) (m sCap : Nat) (cs : List Value) (hm : cs.length = m) (hmn : m ≤ n)
    (hsrc : 0 < m → ∃ ad, sp = some ad ∧ ∀ j v, cs[j]? = some v → w.cell? (ad.add j) = some v) (h1 : ∀ v ∈ cs, v.oneCell' = true) :
    ∃ w', (Builtin.copy_ #[T, T] ty #[.slice (some ⟨g, 0, none⟩) n cap, .slice sp m sCap]).run P w = .ok (goInt m) w' ∧
      w'.ownsRow base e 1 (.slice (some ⟨g, 0, none⟩) n cap) n (cs ++ zs.drop m) ∧ w.grownBy w' (some g) := by
  obtain ⟨hl, ⟨hv, _⟩ | ⟨g', cap', cur, hv, hb, hg, hnc, hcm, hcs, htk⟩⟩ := hown
  · cases hv
  obtain ⟨rfl, rfl⟩ : g = g' ∧ cap = cap' := by simpa using hv
  simp only [Nat.mul_one] at hl hcs htk
  by_cases h0 : m = 0
  · obtain rfl : cs = [] := List.eq_nil_of_length_eq_zero (by omega)
    subst h0
    refine ⟨w, run_copy_none (P := P) w T T ty e (some ⟨g, 0, none⟩) sp n cap 0 sCap hu hsz (by simp), ?_, World.grownBy.refl w _⟩
    simpa using ⟨by simpa using hl, Or.inr ⟨g, cap, cur, rfl, hb, hg, hnc, hcm, by simpa using hcs, by simpa using htk⟩⟩
  · obtain ⟨ad, rfl, hc⟩ := hsrc (by omega)
    have hcur : cur.toList.length = cap := by simpa using hcs
    have hr := run_copy_row (P := P) w T T ty e g 0 n cap ad m sCap cur e cs hu hsz hg (by rw [hm]; exact (Nat.min_eq_left hmn).symm) hc (by omega) h1
    rw [hm] at hr
    refine ⟨_, hr, ?_, grown_setRow w g _⟩
    refine ⟨?_, Or.inr ⟨g, cap, _, rfl, hb, setRow_heap w g _ _ e _ hg, hnc, hcm, ?_, ?_⟩⟩
    · simp only [List.length_append, List.length_drop]; omega
    · simp only [List.size_toArray, List.length_append, List.length_take, List.length_drop]; omega
    · rw [← htk]
      simp only [List.take_zero, List.nil_append, Nat.zero_add, Nat.mul_one]
      rw [List.take_append, List.take_of_length_le (by omega), hm, List.drop_take]

/-- What a call below leaves alone stays owned. -/
theorem owned_below {w w' : World} {base e size : Nat} {v : Value} {n : Nat} {xs : List Value} (h : w.ownsRow base e size v n xs) (hb : Below w.heap.size w w') : w'.ownsRow base e size v n xs := by
  obtain ⟨h1, h2⟩ := h
  refine ⟨h1, ?_⟩
  rcases h2 with h2 | ⟨g, cap, cur, hv, hg, hh, r⟩
  · exact .inl h2
  · refine .inr ⟨g, cap, cur, hv, hg, ?_, r⟩
    rw [hb.block g (Array.getElem?_eq_some_iff.1 hh).1]
    exact hh

theorem made_zeros (z : Value) (hz : z.cells = #[z]) (n : Nat) : (madeCells z.cells (n * 1)).toList = List.replicate n z := by
  rw [hz, Nat.mul_one, toList_madeCells_one]

end Go.Proofs.Qxb6612277aFmt
