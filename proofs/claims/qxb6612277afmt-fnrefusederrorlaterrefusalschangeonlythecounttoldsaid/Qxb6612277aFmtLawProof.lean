/-
  THE TOLD CARD OF FnRefusedErrorLaterRefusalsChangeOnlyTheCount.
-/
import Derived.Test.Qxb6612277aFmtCards
import Derived.Test.Qxb6612277aFmtLaw
import Derived.ProofKit
import Derived.Stop.JoinedAt
import Derived.Stop.Texts
import Derived.Stop.JoinedTold
import Derived.SizedLaws
import Derived.SevenToldRow
import Derived.ShutString
import Derived.OpenShut
import Derived.SliceStrings
namespace Go.Proofs.Qxb6612277aFmt
open Go.ChangeShapes Go.WideShapes Go.ChangeAt Go.RowKit Go.Kit
open Go.ChangeMaps (open_string shut_string)
open Go.Extern.Stop Go.Stop Go.Extern
namespace Law
set_option linter.unusedVariables false

theorem own : ownKnob Tryf.prog.godebug = none := by kernel_rfl
theorem laidOut : laidOutB Tryf.pinned.checked.prog = true := by kernel_rfl
theorem stops : Tryf.pinned.checked.prog.stops = Rows.fnRefusedErrorLaterRefusalsChangeOnlyTheCountRow.stops := by kernel_rfl
theorem stopKnobs : Tryf.pinned.checked.prog.stopKnobs = [] := by kernel_rfl
theorem quiet (os : Os) : Stop.quiet Tryf.pinned.checked.prog os := by
  intro k hk
  rw [stopKnobs] at hk
  cases hk

/-- A slice of ints that came in. -/
theorem ints_in {H : Type} {enc : TypeId × Value → H} {W : World} {a : Option Addr} {len cap : Nat} {d : DataW H} {p : List MemPlace} (h : DataW.Trod enc Tryf.prog W 0 (fun _ => true) true 22 (.slice a len cap) d p) :
    ∃ zs, Ints W a len zs ∧ (∀ z ∈ zs, (Lit.int .i64 z).wf = true) ∧ (a = none → cap = 0) ∧ len ≤ maxLen := by
  obtain ⟨fuel, hf⟩ := h
  rcases open_ints Tryf.underlying22 Tryf.underlying3 (by kernel_rfl) hf with ⟨hcs, _⟩ | ⟨x, l, c, zs, hcs, _, hl, hm, hz, _, hcell, hwz⟩
  · simp [Value.cells] at hcs
    obtain ⟨rfl, rfl, rfl⟩ := hcs
    exact ⟨[], ⟨rfl, fun h => absurd h (Nat.lt_irrefl 0)⟩, (fun z hz => by cases hz), fun _ => rfl, Nat.zero_le _⟩
  · simp [Value.cells] at hcs
    obtain ⟨rfl, rfl, rfl⟩ := hcs
    have hz' : zs.length = cap := by simpa using hz
    refine ⟨zs.take len, ⟨by rw [List.length_take]; omega, fun _ => ⟨x, rfl, fun j z hj => ?_⟩⟩, fun z hz => hwz z (List.mem_of_mem_take hz), (fun h => by cases h), by omega⟩
    rw [List.getElem?_take] at hj
    split at hj
    · have hlt := (List.getElem?_eq_some_iff.1 hj).1
      rw [hcell j hlt, List.getD, hj]
      rfl
    · cases hj

/-- A slice of strings that came in. -/
theorem strs_in {H : Type} {enc : TypeId × Value → H} {W : World} {a : Option Addr} {len cap : Nat} {d : DataW H} {p : List MemPlace} (h : DataW.Trod enc Tryf.prog W 0 (fun _ => true) true 23 (.slice a len cap) d p) :
    ∃ ss, Bytes.Strs W a len ss ∧ (a = none → cap = 0) ∧ len ≤ maxLen := by
  obtain ⟨fuel, hf⟩ := h
  rcases open_strings Tryf.underlying23 Tryf.underlying9 (by kernel_rfl) hf with ⟨hcs, _⟩ | ⟨x, l, c, ss, hcs, _, hl, hm, hz, _, hcell, _⟩
  · simp [Value.cells] at hcs
    obtain ⟨rfl, rfl, rfl⟩ := hcs
    exact ⟨[], ⟨rfl, fun h => absurd h (Nat.lt_irrefl 0)⟩, fun _ => rfl, Nat.zero_le _⟩
  · simp [Value.cells] at hcs
    obtain ⟨rfl, rfl, rfl⟩ := hcs
    have hz' : ss.length = cap := by simpa using hz
    refine ⟨ss.take len, ⟨by rw [List.length_take]; omega, fun hp => ?_⟩, (fun h => by cases h), by omega⟩
    obtain ⟨b, off, spot⟩ := x
    have h0 := hcell 0 (by omega)
    have hspot : spot = none := by simpa [Addr.add] using World.cell?_spot h0
    subst hspot
    refine ⟨b, off, rfl, ?_, fun j s hj => ?_⟩
    · have := World.block_lt_of_cell? W _ h0
      simpa [Addr.add] using this
    · rw [List.getElem?_take] at hj
      split at hj
      · have hlt := (List.getElem?_eq_some_iff.1 hj).1
        have h1 := hcell j hlt
        rw [List.getD, hj, Addr.add_lit] at h1
        exact h1
      · cases hj

theorem maxInt {n : Nat} (h : n ≤ maxLen) : (n : Int) ≤ 9223372036854775807 := by
  unfold maxLen at h
  omega

set_option maxRecDepth 100000 in
theorem lifted (os : Os) (started : os.Started) (H : Type) (enc : TypeId × Value → H) :
    ReturnsInTold none {} Tryf.checked os 3 .any Input.okWide ((OpenSpec.ofChange Rows.fnRefusedErrorLaterRefusalsChangeOnlyTheCountSpec).preRow enc Tryf.prog Tryf.f3 [] false []) (fun F => ((OpenSpec.ofChange Rows.fnRefusedErrorLaterRefusalsChangeOnlyTheCountSpec).at F).post enc Tryf.prog Tryf.f3 false true false false) (aloneAtReturn Tryf.prog) nothingAlways := by
  refine returnsInTold_of_row (C := Tryf.checked) (s := OpenSpec.ofChange Rows.fnRefusedErrorLaterRefusalsChangeOnlyTheCountSpec) (by kernel_rfl) own started (by kernel_rfl) Tryf.func3
    (OpenSpec.witness_stopped (enc := enc) (C := Tryf.checked) false ⟨#[], #[.slice none 0 0, .slice none 0 0, .slice none 0 0, .int .i64 0, .string ⟨#[]⟩, .string ⟨#[]⟩], []⟩ 8 (by kernel_rfl) (by kernel_rfl) (by kernel_rfl) (by kernel_rfl)) ?_
  intro F W base args ds gs before _ hF hval0 hW _ _ hsz _ _
  have hval : ∀ (j : Nat) t v, Tryf.f3.params[j]? = some t → args[j]? = some v → Value.okWide Tryf.prog W .any base t v := hval0
  have hW' := hW
  obtain ⟨p, q, hA0, hV, rfl, hfz, hnd⟩ := hW
  have hA : DataW.TrodAll enc Tryf.prog W 0 (fun _ => true) true Tryf.f3.params.toList args.toList ds p := hA0
  rw [Tryf.params3] at hA hval
  obtain ⟨v0, vs0, d0, ds0, p0, q0, hargs, rfl, rfl, h0, r0⟩ := trodAll_cons hA
  obtain ⟨v1, vs1, d1, ds1, p1, q1, rfl, rfl, rfl, h1, r1⟩ := trodAll_cons r0
  obtain ⟨v2, vs2, d2, ds2, p2, q2, rfl, rfl, rfl, h2, r2⟩ := trodAll_cons r1
  obtain ⟨v3, vs3, d3, ds3, p3, q3, rfl, rfl, rfl, h3, r3⟩ := trodAll_cons r2
  obtain ⟨v4, vs4, d4, ds4, p4, q4, rfl, rfl, rfl, h4, r4⟩ := trodAll_cons r3
  obtain ⟨v5, vs5, d5, ds5, p5, q5, rfl, rfl, rfl, h5, r5⟩ := trodAll_cons r4
  obtain ⟨rfl, rfl, rfl⟩ := trodAll_nil r5
  obtain rfl : args = #[v0, v1, v2, v3, v4, v5] := by cases args; simp_all
  obtain ⟨rfl, rfl⟩ := trodVars_none hV
  obtain ⟨a0, len0, cap0, rfl⟩ := okWide_slice Tryf.underlying22 (hval 0 22 v0 rfl rfl)
  obtain ⟨a1, len1, cap1, rfl⟩ := okWide_slice Tryf.underlying23 (hval 1 23 v1 rfl rfl)
  obtain ⟨a2, len2, cap2, rfl⟩ := okWide_slice Tryf.underlying23 (hval 2 23 v2 rfl rfl)
  obtain ⟨x, rfl, rfl, rfl, wx⟩ := open_int Tryf.underlying3 (hval 3 3 v3 rfl rfl) h3
  obtain ⟨ef, rfl, rfl, rfl, wef⟩ := open_string Tryf.underlying9 (hval 4 9 v4 rfl rfl) h4
  obtain ⟨em, rfl, rfl, rfl, wem⟩ := open_string Tryf.underlying9 (hval 5 9 v5 rfl rfl) h5
  have lt0 : ∀ x ∈ p0, x.block < W.heap.size := by obtain ⟨m, hm⟩ := h0; exact DataW.trod_lt m _ _ _ hm
  have lt1 : ∀ x ∈ p1, x.block < W.heap.size := by obtain ⟨m, hm⟩ := h1; exact DataW.trod_lt m _ _ _ hm
  have lt2 : ∀ x ∈ p2, x.block < W.heap.size := by obtain ⟨m, hm⟩ := h2; exact DataW.trod_lt m _ _ _ hm
  obtain ⟨zs, hz1, hz2, hz3, hz4⟩ := ints_in h0
  obtain ⟨fs, hf1, hf2, hf3⟩ := strs_in h1
  obtain ⟨ms, hm1, hm2, hm3⟩ := strs_in h2
  have hx : -9223372036854775808 ≤ x ∧ x ≤ 9223372036854775807 := by
    simp [Lit.wf, IntKind.min, IntKind.max, IntKind.signed, IntKind.bits] at wx
    exact wx
  clear hA0 hval0
  refine (law_walk F a0 a1 a2 len0 cap0 len1 cap1 len2 cap2 zs fs ms x ef em W hF (Bytes.hidden hz1) (Bytes.hidden hf1) (Bytes.hidden hm1) (Bytes.hidden hx) (Bytes.hidden hz2) (Bytes.hidden hz3) (Bytes.hidden hf2) (Bytes.hidden hm2)
    (maxInt hz4) (maxInt hf3) (maxInt hm3) (maxInt wef) (maxInt wem)).mono fun e W' ⟨he, bel⟩ => ?_
  subst he
  exact ⟨_, rfl, _, _, _, [], _, [], hW', trodAll_mk1 (shut_bool Tryf.underlying4 _),
    (trodAll_cons_mk (Below.trod laidOut (by kernel_rfl) (of_decide_eq_true (by kernel_rfl)) h0 bel lt0) (trodAll_cons_mk (Below.trod laidOut (by kernel_rfl) (of_decide_eq_true (by kernel_rfl)) h1 bel lt1) (trodAll_cons_mk (Below.trod laidOut (by kernel_rfl) (of_decide_eq_true (by kernel_rfl)) h2 bel lt2)
      (trodAll_cons_mk (shut_int Tryf.underlying3 wx) (trodAll_cons_mk (shut_string Tryf.underlying9 wef) (trodAll_cons_mk (shut_string Tryf.underlying9 wem) trodAll_mk0)))))), rfl, bel.frame _, fun h => by cases h⟩

theorem proved : Rows.FnRefusedErrorLaterRefusalsChangeOnlyTheCountToldSaid :=
  Claim7.holds_of_told_any 3 Tryf.f3 _ _ [] _ _ _ (by kernel_rfl) rfl rfl rfl laidOut (by kernel_rfl) rfl ⟨rfl, rfl, rfl, rfl, rfl, rfl, rfl⟩ rfl rfl (by kernel_rfl) (by kernel_rfl) Tryf.func3 (by kernel_rfl)
    (of_decide_eq_true (by kernel_rfl)) (of_decide_eq_true (by kernel_rfl)) stops.symm rfl stopKnobs.symm (by kernel_rfl)
    (by kernel_rfl) (by kernel_rfl) (by kernel_rfl) (by kernel_rfl) (by kernel_rfl) (by kernel_rfl) (by kernel_rfl) (by kernel_rfl) (by kernel_rfl) rfl (by kernel_rfl) rfl rfl
    rfl rfl
    rfl (by kernel_rfl) (by kernel_rfl) (by kernel_rfl) (by decide) (by kernel_rfl)
    (OpenClaim.moreEntering_of (by kernel_rfl) (by kernel_rfl) (by kernel_rfl) (by kernel_rfl) (by kernel_rfl) (by kernel_rfl) (by kernel_rfl) (by kernel_rfl) (by kernel_rfl) (by kernel_rfl))
    ⟨_, WideRow.started_initial, quiet _⟩
    (fun os started _ H enc _ => lifted os started H enc)

end Law
#print axioms Law.proved
end Go.Proofs.Qxb6612277aFmt
