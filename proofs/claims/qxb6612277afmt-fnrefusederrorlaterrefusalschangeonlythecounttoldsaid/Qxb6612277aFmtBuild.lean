/-
  THE WALK OVER ZZRefusedErrorText.
-/
import Derived.Test.Qxb6612277aFmtText
import Derived.Deep.AppendLies
import Derived.Deep.DrawnRows
import Derived.Test.Qxb6612277aFmtOrders
namespace Go.Proofs.Qxb6612277aFmt
open Go.RowKit Go.Extern.Stop Go.Stop Go.Extern
set_option linter.unusedVariables false
set_option linter.unusedSimpArgs false
attribute [local go_sem ↓] Go.wp_at_zero Go.wp_at_succ

theorem hidden {p : Prop} (h : p) : Hid p := h

theorem Tryf.info48 : (Tryf.prog.info? 48).map (fun i => (i.zero, i.size, i.bytes)) = some (some (.agg #[.int .i64 0, .string ⟨#[]⟩, .nilIface]), 3, 40) := by kernel_rfl

/-- What holds at each round's head: k refusals are gathered; of the first its line and its reason's text are known. -/
def Gathered (base E : Nat) (L0 : Int) (M0 : List UInt8) (wr : World) (k : Nat) : Prop :=
  ∃ sv xs, wr.heap[E]? = some (.cells #[sv] 43 (0, 0)) ∧ wr.ownsRow base 48 3 sv k xs ∧ (k = 0 → sv = .slice none 0 0) ∧
    (0 < k → ∃ f p, xs[0]? = some (.int .i64 L0) ∧ xs[1]? = some (.string f) ∧ xs[2]? = some (.iface 61 (.pointer (some ⟨p, 0, none⟩))) ∧ wr.heap[p]? = some (.cells #[.string ⟨M0.toArray⟩] 63 (0, 0)))

theorem gathered_step {base E : Nat} {L0 L : Int} {M0 M : List UInt8} {f : ByteArray} {wr wa w1 : World} {k p gg cap : Nat} {sv : Value} {xs : List Value}
    (hE : wr.heap[E]? = some (.cells #[sv] 43 (0, 0))) (hown : wr.ownsRow base 48 3 sv k xs)
    (hfirst : 0 < k → ∃ f p, xs[0]? = some (.int .i64 L0) ∧ xs[1]? = some (.string f) ∧ xs[2]? = some (.iface 61 (.pointer (some ⟨p, 0, none⟩))) ∧ wr.heap[p]? = some (.cells #[.string ⟨M0.toArray⟩] 63 (0, 0)))
    (hz : k = 0 → L = L0 ∧ M = M0)
    (hext : ∀ b, b < wr.heap.size → wa.heap[b]? = wr.heap[b]?) (hp : wa.heap[p]? = some (.cells #[.string ⟨M.toArray⟩] 63 (0, 0))) (hEb : E < base) (hsz : wr.heap.size ≤ wa.heap.size)
    (hown1 : w1.ownsRow base 48 3 (.slice (some ⟨gg, 0, none⟩) (k + 1) cap) (k + 1) (xs ++ [.int .i64 L, .string f, .iface 61 (.pointer (some ⟨p, 0, none⟩))])) (hgrow : wa.grownBy w1 sv.ownBlock) :
    Gathered base E L0 M0 (w1.setCell ⟨E, 0, none⟩ (.slice (some ⟨gg, 0, none⟩) (k + 1) cap)) (k + 1) := by
  have hlenx : xs.length = k * 3 := hown.1
  -- no block of another element type is the row's own
  have far : ∀ b t c fr, wa.heap[b]? = some (.cells c t fr) → t ≠ 48 → some b ≠ sv.ownBlock := by
    intro b t c fr hb ht hob
    rcases hown.2 with ⟨rfl, _⟩ | ⟨g, cap', cur, rfl, _, hg, _⟩
    · cases hob
    · simp only [Value.ownBlock, Option.some.injEq] at hob
      subst hob
      have hlt := (Array.getElem?_eq_some_iff.1 hg).1
      rw [hext _ hlt, hg] at hb
      simp only [Option.some.injEq, Obj.cells.injEq] at hb
      exact ht hb.2.1.symm
  have hElt := (Array.getElem?_eq_some_iff.1 hE).1
  have hEa : wa.heap[E]? = some (.cells #[sv] 43 (0, 0)) := by rw [hext E hElt]; exact hE
  have hE1 : w1.heap[E]? = some (.cells #[sv] 43 (0, 0)) := by rw [hgrow.block E (by omega) (far E _ _ _ hEa (by decide))]; exact hEa
  have keep : ∀ b, b ≠ E → (w1.setCell ⟨E, 0, none⟩ (.slice (some ⟨gg, 0, none⟩) (k + 1) cap)).heap[b]? = w1.heap[b]? := fun b hb => Below.heap_setCell _ _ _ _ hb
  refine ⟨.slice (some ⟨gg, 0, none⟩) (k + 1) cap, xs ++ [.int .i64 L, .string f, .iface 61 (.pointer (some ⟨p, 0, none⟩))], one_setCell hE1, ?_, fun h => by omega, fun _ => ?_⟩
  · exact ownsRow_setCell_below hown1 (by exact hEb) _
  · by_cases hk : k = 0
    · subst hk
      obtain ⟨rfl, rfl⟩ := hz rfl
      have : xs = [] := List.eq_nil_of_length_eq_zero (by omega)
      subst this
      refine ⟨f, p, rfl, rfl, rfl, ?_⟩
      have hplt := (Array.getElem?_eq_some_iff.1 hp).1
      have hpE : p ≠ E := by
        intro e
        subst e
        rw [hEa] at hp
        simp at hp
      rw [keep p hpE, hgrow.block p hplt (far p _ _ _ hp (by decide))]
      exact hp
    · obtain ⟨f0, p0, a0, a1, a2, a3⟩ := hfirst (by omega)
      have hlt3 : 2 < xs.length := by omega
      refine ⟨f0, p0, ?_, ?_, ?_, ?_⟩
      · rw [List.getElem?_append_left (by omega)]; exact a0
      · rw [List.getElem?_append_left (by omega)]; exact a1
      · rw [List.getElem?_append_left (by omega)]; exact a2
      · have hplt := (Array.getElem?_eq_some_iff.1 a3).1
        have a3' : wa.heap[p0]? = some (.cells #[.string ⟨M0.toArray⟩] 63 (0, 0)) := by rw [hext p0 hplt]; exact a3
        have hpE : p0 ≠ E := by
          intro e
          subst e
          rw [hE] at a3
          simp at a3
        rw [keep p0 hpE, hgrow.block p0 (by omega) (far p0 _ _ _ a3' (by decide))]
        exact a3'

/-- A row of the call's own read at place k. -/
theorem row_at {w : World} {base e : Nat} {v : Value} {n k : Nat} {xs : List Value} (h : w.ownsRow base e 1 v n xs) (hk : k < n) :
    ∃ g cap x, v = .slice (some ⟨g, 0, none⟩) n cap ∧ g < w.heap.size ∧ xs[k]? = some x ∧ w.cell? ⟨g, k, none⟩ = some x := by
  obtain ⟨g, cap, rfl, _, hlt⟩ := h.form (by omega)
  have hx : k < xs.length := by have := h.1; omega
  refine ⟨g, cap, xs[k], rfl, hlt, List.getElem?_eq_getElem hx, ?_⟩
  rw [h.cellAt k (by omega), List.getElem?_eq_getElem hx]

theorem new_block2 (w : World) (a b : Obj) : ((w.alloc a).alloc b).drew.heap[w.heap.size + 1]? = some b := by
  have h := heap_alloc_new (w.alloc a) b
  have e : (w.alloc a).heap.size = w.heap.size + 1 := by simp
  rw [e] at h
  exact h

set_option maxRecDepth 100000 in
set_option maxHeartbeats 3200000 in
theorem build_walk (F : Interp) (base0 : Nat) (vl vf vm : Value) (n : Nat) (Ls : List Int) (Fs : List ByteArray) (Ms : List (List UInt8)) (w : World) (hF : F.told.answers w.tape)
    (HL : Hid (w.ownsRow base0 3 1 vl n (Ls.map (Value.int .i64)))) (HF : Hid (w.ownsRow base0 9 1 vf n (Fs.map Value.string))) (HM : Hid (w.ownsRow base0 9 1 vm n (Ms.map fun m => Value.string ⟨m.toArray⟩)))
    (hlen : ∃ c l', vl = .slice l' n c) (hn : (n : Int) ≤ 1000000) (L0 : Int) (M0 : List UInt8) (H0 : Hid (0 < n → Ls[0]? = some L0 ∧ Ms[0]? = some M0)) (HW : Hid ((Lit.int .i64 L0).wf = true)) (sM : M0.length ≤ 10000000) :
    Calls Tryf.prog 7 #[vl, vf, vm] w fun e w' => e = .returned (.string ⟨(if n = 0 then cntText 0 else cntText n ++ tailText L0 M0).toArray⟩) ∧ Below w.heap.size w w' := by
  obtain ⟨i0, hi, hz0, hz1, hz2⟩ := info_parts Tryf.info48
  obtain ⟨cl, al, rfl⟩ := hlen
  go_enter Tryf.func7, Tryf.ntmps7
  go_wp2_with fail
  go_loopw [13] (fun i wr => ∃ k : Nat, k ≤ n ∧ i = .int .i64 k ∧ Gathered (w.heap.size + 1) w.heap.size L0 M0 wr k ∧ Below w.heap.size w wr) (fun i _ => n - (intOf i).toNat)
  case atStart =>
    refine ⟨0, Nat.zero_le _, rfl, ⟨.slice none 0 0, [], ?_, World.ownsRow_nil _ _ _ _, fun _ => rfl, fun h => by omega⟩, (Below.refl _ w).alloc (Nat.le_refl _) _⟩
    exact heap_alloc_new w _
  case round =>
    obtain ⟨k, hk, rfl, hg, hw⟩ := hrel
    obtain ⟨sv, xs, hE, hown, hsv0, hfirst⟩ := hg
    by_cases hlt : k < n
    · obtain ⟨bl, _, x1, h1, bl1, hx1, hc1⟩ := row_at HL.out hlt
      obtain ⟨bf, cf, x2, rfl, bl2, hx2, hc2⟩ := row_at HF.out hlt
      obtain ⟨bm, cm, x3, rfl, bl3, hx3, hc3⟩ := row_at HM.out hlt
      simp only [Value.slice.injEq] at h1
      obtain ⟨rfl, _, rfl⟩ := h1
      rw [List.getElem?_map] at hx1 hx2 hx3
      obtain ⟨L, hL, rfl⟩ := Option.map_eq_some_iff.1 hx1
      obtain ⟨f, hf, rfl⟩ := Option.map_eq_some_iff.1 hx2
      obtain ⟨M, hM, rfl⟩ := Option.map_eq_some_iff.1 hx3
      have d1 : wr.cell? ⟨bl, k, none⟩ = some (.int .i64 L) := (hw.cell (by exact bl1)).trans hc1
      have d2 : wr.cell? ⟨bf, k, none⟩ = some (.string f) := (hw.cell (by exact bl2)).trans hc2
      have d3 : wr.cell? ⟨bm, k, none⟩ = some (.string ⟨M.toArray⟩) := (hw.cell (by exact bl3)).trans hc3
      have dE := cell_of_one hE
      have fE := free_of_one hE
      have hElt := lt_of_block hE
      have HFI := hidden hfirst
      have HO := hidden hown
      have HE := hidden hE
      have HWr := hidden hw
      have hk0 : (0 : Int) ≤ (k : Int) := Int.natCast_nonneg _
      have hk1 : (k : Int) < (n : Int) := by omega
      have hz := hw.size
      have far : ∀ b, b < w.heap.size + 1 → some b ≠ sv.ownBlock := fun b hb e => by
        have := (hown.lt b e.symm).1
        omega
      have HFar := hidden far
      clear hfirst hown hE hw hsv0 hc1 hc2 hc3 hx1 hx2 hx3 far hF
      have hfz := frozen?_alloc_cells
      go_wp2_with fail
      refine wp_region_noPanic ?_
      refine wp_region_D 23 (fun w' => w'.frozen? ⟨w.heap.size, 0, none⟩ = false ∧ w'.cell? ⟨bl, k, none⟩ = some (.int .i64 L) ∧ w'.cell? ⟨bf, k, none⟩ = some (.string f) ∧ w'.cell? ⟨bm, k, none⟩ = some (.string ⟨M.toArray⟩)) (fun w' => w'.cell? ⟨w.heap.size, 0, none⟩ = some sv) (by kernel_rfl) ?_ (fun hHeld => ?_)
      · go_keep
      refine wpAnyD_take (v := ?_) 0 rfl (by kernel_rfl) (by kernel_rfl) (by kernel_rfl) rfl (by kernel_rfl) (by kernel_rfl) (fun _ _ _ h => h) (Or.inl ⟨by rfl, ?_⟩) hHeld ?_
      rotate_left
      · (intro w hSw; (try dsimp only at hSw); go_simp; try (with_reducible rfl))
      try simp only [Act.put, List.setIfInBounds_toArray, List.set_cons_zero, List.set_cons_succ]
      refine wpAnyD_take (v := ?_) 1 rfl (by kernel_rfl) (by kernel_rfl) (by kernel_rfl) rfl (by kernel_rfl) (by kernel_rfl) (fun _ _ _ h => h) (Or.inl ⟨by rfl, ?_⟩) hHeld ?_
      rotate_left
      · (intro w hSw; (try dsimp only at hSw); go_simp; try (with_reducible rfl))
      try simp only [Act.put, List.setIfInBounds_toArray, List.set_cons_zero, List.set_cons_succ]
      refine wpAnyD_take (v := ?_) 2 rfl (by kernel_rfl) (by kernel_rfl) (by kernel_rfl) rfl (by kernel_rfl) (by kernel_rfl) (fun _ _ _ h => h) (Or.inl ⟨by rfl, ?_⟩) hHeld ?_
      rotate_left
      · (intro w hSw; (try dsimp only at hSw); go_simp; try (with_reducible rfl))
      try simp only [Act.put, List.setIfInBounds_toArray, List.set_cons_zero, List.set_cons_succ]
      refine wpAnyD_take (v := ?_) 3 rfl (by kernel_rfl) (by kernel_rfl) (by kernel_rfl) rfl (by kernel_rfl) (by kernel_rfl) (fun _ _ _ h => h) (Or.inl ⟨by rfl, ?_⟩) hHeld ?_
      rotate_left
      · (intro w hSw; (try dsimp only at hSw); go_simp; try (with_reducible rfl))
      try simp only [Act.put, List.setIfInBounds_toArray, List.set_cons_zero, List.set_cons_succ]
      refine wpAnyD_take (v := ?_) 4 rfl (by kernel_rfl) (by kernel_rfl) (by kernel_rfl) rfl (by kernel_rfl) (by kernel_rfl) (fun _ _ _ h => h) (Or.inl ⟨by rfl, ?_⟩) hHeld ?_
      rotate_left
      · (intro w hSw; (try dsimp only at hSw); go_simp; try (with_reducible rfl))
      try simp only [Act.put, List.setIfInBounds_toArray, List.set_cons_zero, List.set_cons_succ]
      refine wpAnyD_take (v := ?_) 5 rfl (by kernel_rfl) (by kernel_rfl) (by kernel_rfl) rfl (by kernel_rfl) (by kernel_rfl) (fun _ _ _ h => h) (Or.inl ⟨by rfl, ?_⟩) hHeld ?_
      rotate_left
      · (intro w hSw; (try dsimp only at hSw); go_simp; try (with_reducible rfl))
      try simp only [Act.put, List.setIfInBounds_toArray, List.set_cons_zero, List.set_cons_succ]
      refine wpAnyD_take (v := ?_) 6 rfl (by kernel_rfl) (by kernel_rfl) (by kernel_rfl) rfl (by kernel_rfl) (by kernel_rfl) (fun _ _ _ h => h) (Or.inl ⟨by rfl, ?_⟩) hHeld ?_
      rotate_left
      · (intro w hSw; (try dsimp only at hSw); go_simp; try (with_reducible rfl))
      try simp only [Act.put, List.setIfInBounds_toArray, List.set_cons_zero, List.set_cons_succ]
      refine wpAnyD_take (v := ?_) 7 rfl (by kernel_rfl) (by kernel_rfl) (by kernel_rfl) rfl (by kernel_rfl) (by kernel_rfl) (fun _ _ _ h => h) (Or.inl ⟨by rfl, ?_⟩) hHeld ?_
      rotate_left
      · (intro w hSw; (try dsimp only at hSw); go_simp; try (with_reducible rfl))
      try simp only [Act.put, List.setIfInBounds_toArray, List.set_cons_zero, List.set_cons_succ]
      refine wpAnyD_take (v := ?_) 8 rfl (by kernel_rfl) (by kernel_rfl) (by kernel_rfl) rfl (by kernel_rfl) (by kernel_rfl) (fun _ _ _ h => h) (Or.inl ⟨by rfl, ?_⟩) hHeld ?_
      rotate_left
      · (intro w hSw; (try dsimp only at hSw); go_simp; try (with_reducible rfl))
      try simp only [Act.put, List.setIfInBounds_toArray, List.set_cons_zero, List.set_cons_succ]
      refine wpAnyD_take (v := ?_) 9 rfl (by kernel_rfl) (by kernel_rfl) (by kernel_rfl) rfl (by kernel_rfl) (by kernel_rfl) (fun _ _ _ h => h) (Or.inl ⟨by rfl, ?_⟩) hHeld ?_
      rotate_left
      · (intro w hSw; (try dsimp only at hSw); go_simp; try (with_reducible rfl))
      try simp only [Act.put, List.setIfInBounds_toArray, List.set_cons_zero, List.set_cons_succ]
      refine wpAnyD_take (v := ?_) 10 rfl (by kernel_rfl) (by kernel_rfl) (by kernel_rfl) rfl (by kernel_rfl) (by kernel_rfl) (fun _ _ _ h => h) (Or.inl ⟨by rfl, ?_⟩) hHeld ?_
      rotate_left
      · (intro w hSw; (try dsimp only at hSw); go_simp; try (with_reducible rfl))
      try simp only [Act.put, List.setIfInBounds_toArray, List.set_cons_zero, List.set_cons_succ]
      refine wpAnyD_take (v := ?_) 11 rfl (by kernel_rfl) (by kernel_rfl) (by kernel_rfl) rfl (by kernel_rfl) (by kernel_rfl) (fun _ _ _ h => h) (Or.inl ⟨by rfl, ?_⟩) hHeld ?_
      rotate_left
      · (intro w hSw; (try dsimp only at hSw); go_simp; try (with_reducible rfl))
      try simp only [Act.put, List.setIfInBounds_toArray, List.set_cons_zero, List.set_cons_succ]
      refine wpAnyD_take (v := ?_) 12 rfl (by kernel_rfl) (by kernel_rfl) (by kernel_rfl) rfl (by kernel_rfl) (by kernel_rfl) (fun _ _ _ h => h) (Or.inl ⟨by rfl, ?_⟩) hHeld ?_
      rotate_left
      · (intro w hSw; (try dsimp only at hSw); go_simp; try (with_reducible rfl))
      try simp only [Act.put, List.setIfInBounds_toArray, List.set_cons_zero, List.set_cons_succ]
      refine wpAnyD_take (v := ?_) 13 rfl (by kernel_rfl) (by kernel_rfl) (by kernel_rfl) rfl (by kernel_rfl) (by kernel_rfl) (fun _ _ _ h => h) (Or.inl ⟨by rfl, ?_⟩) hHeld ?_
      rotate_left
      · (intro w hSw; (try dsimp only at hSw); go_simp; try (with_reducible rfl))
      try simp only [Act.put, List.setIfInBounds_toArray, List.set_cons_zero, List.set_cons_succ]
      refine wpAnyD_take (v := ?_) 14 rfl (by kernel_rfl) (by kernel_rfl) (by kernel_rfl) rfl (by kernel_rfl) (by kernel_rfl) (fun _ _ _ h => h) (Or.inl ⟨by rfl, ?_⟩) hHeld ?_
      rotate_left
      · (intro w hSw; (try dsimp only at hSw); go_simp; try (with_reducible rfl))
      try simp only [Act.put, List.setIfInBounds_toArray, List.set_cons_zero, List.set_cons_succ]
      refine wpAnyD_take (v := ?_) 15 rfl (by kernel_rfl) (by kernel_rfl) (by kernel_rfl) rfl (by kernel_rfl) (by kernel_rfl) (fun _ _ _ h => h) (Or.inl ⟨by rfl, ?_⟩) hHeld ?_
      rotate_left
      · (intro w hSw; (try dsimp only at hSw); go_simp; try (with_reducible rfl))
      try simp only [Act.put, List.setIfInBounds_toArray, List.set_cons_zero, List.set_cons_succ]
      refine wpAnyD_take (v := ?_) 16 rfl (by kernel_rfl) (by kernel_rfl) (by kernel_rfl) rfl (by kernel_rfl) (by kernel_rfl) (fun _ _ _ h => h) (Or.inl ⟨by rfl, ?_⟩) hHeld ?_
      rotate_left
      · (intro w hSw; (try dsimp only at hSw); go_simp; try (with_reducible rfl))
      try simp only [Act.put, List.setIfInBounds_toArray, List.set_cons_zero, List.set_cons_succ]
      refine wpAnyD_one 17 (by kernel_rfl) rfl (fun K hK => ?_)
      go_simp
      refine (newErr_any ⟨M.toArray⟩ _).mono ?_
      rintro e w' ⟨rfl, rfl⟩
      go_wp2_with fail
      refine hK.out _ _ ?_ ?_ (fun h1 h0 => ?_)
      · go_keep
      · (intro _; go_keep)
      clear hHeld
      have hHeld := And.intro h1 (h0 (by kernel_rfl))
      clear hK K h1 h0
      try simp only [Act.put, List.setIfInBounds_toArray, List.set_cons_zero, List.set_cons_succ]
      refine wpAnyD_take (v := ?_) 18 rfl (by kernel_rfl) (by kernel_rfl) (by kernel_rfl) rfl (by kernel_rfl) (by kernel_rfl) (fun _ _ _ h => h) (Or.inl ⟨by rfl, ?_⟩) hHeld ?_
      rotate_left
      · (intro w hSw; (try dsimp only at hSw); go_simp; try (with_reducible rfl))
      try simp only [Act.put, List.setIfInBounds_toArray, List.set_cons_zero, List.set_cons_succ]
      refine wpAnyD_one 19 (by kernel_rfl) rfl (fun K hK => ?_)
      go_simp
      refine hK.out _ _ ?_ ?_ (fun h1 h0 => ?_)
      · go_keep
      · (intro _; go_keep)
      clear hHeld
      have hHeld := And.intro h1 (h0 (by kernel_rfl))
      clear hK K h1 h0
      try simp only [Act.put, List.setIfInBounds_toArray, List.set_cons_zero, List.set_cons_succ]
      refine wpAnyD_one 20 (by kernel_rfl) rfl (fun K hK => ?_)
      refine step_append_lies _ (by rfl) _ _ _ (by rfl) (w.heap.size + 1) 48 i0 _ 3 40 Tryf.underlying41 hi hz0 hz1 hz2 rfl (by omega) sv k xs (by rfl) (((HO.out.alloc _).alloc _).drew) ⟨wr.heap.size + 1, 0, none⟩ 1 1 [.int .i64 L, .string f, .iface 61 (.pointer (some ⟨wr.heap.size, 0, none⟩))] (by rfl) (by rfl) (World.news_of_block (cs := #[.int .i64 L, .string f, .iface 61 (.pointer (some ⟨wr.heap.size, 0, none⟩))]) (t := 48) (fr := (0, 0)) (new_block2 wr _ _)) (by simp [Value.oneCell']) (by omega) (by unfold maxLen; omega) (by omega) (by simp; omega) (wr.heap.size + 2) (by simp) ?_
      intro gg cap w1 hown1 hgrow hat hlt2
      refine hK.out _ _ ?_ ?_ (fun h1 h0 => ?_)
      · exact ⟨by (rw [hgrow.frozen_far _ (by simp; omega) (HFar.out _ (by simp; try omega))]; go_keep), by (rw [hgrow.cell_far _ (by simp; omega) (HFar.out _ (by simp; try omega))]; go_keep), by (rw [hgrow.cell_far _ (by simp; omega) (HFar.out _ (by simp; try omega))]; go_keep), by (rw [hgrow.cell_far _ (by simp; omega) (HFar.out _ (by simp; try omega))]; go_keep)⟩
      · (intro _; (rw [hgrow.cell_far _ (by simp; omega) (HFar.out _ (by simp; try omega))]; go_keep))
      clear hHeld
      have hHeld := And.intro h1 (h0 (by kernel_rfl))
      clear hK K h1 h0
      try simp only [Act.put, List.setIfInBounds_toArray, List.set_cons_zero, List.set_cons_succ]
      refine wpAnyD_one 21 (by kernel_rfl) rfl (fun K hK => ?_)
      go_simp
      refine hK.out _ _ ?_ ?_ (fun h1 h0 => ?_)
      · exact hHeld.1
      · exact fun _ => hHeld.2
      clear hHeld
      have hHeld := And.intro h1 (h0 (by kernel_rfl))
      clear hK K h1 h0
      try simp only [Act.put, List.setIfInBounds_toArray, List.set_cons_zero, List.set_cons_succ]
      refine wpAnyD_one 22 (by kernel_rfl) rfl (fun K hK => ?_)
      go_simp
      refine hK.out _ _ ?_ ?_ (fun h1 h0 => ?_)
      · exact hHeld.1
      · exact fun _ => hHeld.2
      clear hHeld
      have hHeld := And.intro h1 (h0 (by kernel_rfl))
      clear hK K h1 h0
      try simp only [Act.put, List.setIfInBounds_toArray, List.set_cons_zero, List.set_cons_succ]
      refine wpAnyD_one 23 (by kernel_rfl) rfl (fun K hK => ?_)
      go_simp
      refine hK.out _ _ ?_ ?_ (fun h1 h0 => ?_)
      · (obtain ⟨⟨q1, q2, q3, q4⟩, q5⟩ := hHeld; exact ⟨by simp [q1], by rw [World.cell?_setCell_far _ _ _ _ (Nat.ne_of_gt bl1)]; exact q2, by rw [World.cell?_setCell_far _ _ _ _ (Nat.ne_of_gt bl2)]; exact q3, by rw [World.cell?_setCell_far _ _ _ _ (Nat.ne_of_gt bl3)]; exact q4⟩)
      · (intro h; exact absurd (h.symm.trans (by kernel_rfl)) Bool.false_ne_true)
      clear hK K h0 hHeld
      try simp only [Act.put, List.setIfInBounds_toArray, List.set_cons_zero, List.set_cons_succ]
      refine wpAnyD_done (by kernel_rfl) ?_ _
      refine NoPanic.normal ?_
      go_wp2
      have hext : ∀ b, b < wr.heap.size → ((wr.alloc (.cells #[.string ⟨M.toArray⟩] 63)).alloc (.cells #[.int .i64 L, .string f, .iface 61 (.pointer (some ⟨wr.heap.size, 0, none⟩))] 48)).drew.heap[b]? = wr.heap[b]? := fun b hb =>
        (Below.heap_alloc _ _ b (by simp; omega)).trans (Below.heap_alloc wr _ b hb)
      have hpb : ((wr.alloc (.cells #[.string ⟨M.toArray⟩] 63)).alloc (.cells #[.int .i64 L, .string f, .iface 61 (.pointer (some ⟨wr.heap.size, 0, none⟩))] 48)).drew.heap[wr.heap.size]? = some (.cells #[.string ⟨M.toArray⟩] 63 (0, 0)) :=
        (Below.heap_alloc _ _ wr.heap.size (by simp)).trans (heap_alloc_new wr _)
      have hzz : k = 0 → L = L0 ∧ M = M0 := by
        intro h0
        subst h0
        obtain ⟨a1, a2⟩ := H0.out (by omega)
        rw [hL] at a1
        rw [hM] at a2
        exact ⟨by simpa using a1, by simpa using a2⟩
      have hG := gathered_step (L := L) (M := M) (f := f) HE.out HO.out HFI.out hzz hext hpb (Nat.lt_succ_self _) (by simp; omega) hown1 hgrow
      have hB1 : Below w.heap.size w ((wr.alloc (.cells #[.string ⟨M.toArray⟩] 63)).alloc (.cells #[.int .i64 L, .string f, .iface 61 (.pointer (some ⟨wr.heap.size, 0, none⟩))] 48)).drew := ((HWr.out.alloc hz _).alloc (by simp; omega) _).drew
      have hB2 : Below w.heap.size w w1 := hB1.grown hgrow (by simp; omega) (fun b hb => by
        have := HFar.out b
        rcases Nat.lt_or_ge b (w.heap.size + 1) with h | h
        · exact absurd hb.symm (this h)
        · omega)
      refine ⟨⟨k + 1, by omega, by go_num, hG, hB2.setCell (Nat.le_refl _) _⟩, by simp [intOf]; omega⟩
    · obtain rfl : k = n := by omega
      have dE := cell_of_one hE
      have hElt := lt_of_block hE
      have hFr : F.told.answers wr.tape := by rw [hw.tape]; exact hF
      have HWr := hidden hw
      by_cases hk0 : k = 0
      · have hs := hsv0 hk0
        subst hs
        subst hk0
        clear hfirst hsv0 hw hF
        go_wp2_with fail
        refine (err_zero_told F w.heap.size _ hFr dE hElt).mono ?_
        rintro e w' ⟨rfl, hw'⟩
        go_wp2
        go_ret
        exact ⟨by simp, HWr.out.trans (hw'.mono HWr.out.size)⟩
      · obtain ⟨f0, p0, a0, a1, a2, a3⟩ := hfirst (by omega)
        obtain ⟨g, cap, rfl, hg1, hg2⟩ := hown.form (by omega)
        have c0 : wr.cell? ⟨g, 0, none⟩ = some (.int .i64 L0) := by rw [hown.cellAt 0 (by omega)]; exact a0
        have c2 : wr.cell? ⟨g, 2, none⟩ = some (.iface 61 (.pointer (some ⟨p0, 0, none⟩))) := by rw [hown.cellAt 2 (by omega)]; exact a2
        have c3 := cell_of_one a3
        have hp0 := lt_of_block a3
        have hk1 : (0 : Int) < k := by omega
        clear hfirst hsv0 hw hF a0 a1 a2 a3 hown
        go_wp2_with fail
        refine (err_some_told F w.heap.size g k cap p0 L0 M0 _ hFr dE hk1 hn c0 c2 c3 hElt hg2 hp0 HW.out sM).mono ?_
        rintro e w' ⟨rfl, hw'⟩
        go_wp2
        go_ret
        exact ⟨by simp [hk0], HWr.out.trans (hw'.mono HWr.out.size)⟩

end Go.Proofs.Qxb6612277aFmt
