/-
  THE WALK OVER FnRefusedErrorLaterRefusalsChangeOnlyTheCount.
-/
import Derived.Test.Qxb6612277aFmtRowsOf
import Derived.Test.Qxb6612277aFmtBytes
import Derived.Test.Qxb6612277aFmtBuild
import Derived.Test.Qxb6612277aFmtTells
import Derived.Deep.DeepCutAuto
namespace Go.Proofs.Qxb6612277aFmt
open Go.RowKit Go.Extern.Stop Go.Stop Go.Extern
set_option linter.unusedVariables false
open Bytes (Strs Small ZZEnds ReEnds)

/-- A slice of ints that came in: nil, or a row of cells. -/
def Ints (w : World) (a : Option Addr) (len : Nat) (zs : List Int) : Prop :=
  zs.length = len ∧ (0 < len → ∃ ad, a = some ad ∧ ∀ j z, zs[j]? = some z → w.cell? (ad.add j) = some (.int .i64 z))

theorem Tryf.info3 : (Tryf.prog.info? 3).map (fun i => (i.zero, i.size, i.bytes)) = some (some (.int .i64 0), 1, 8) := by kernel_rfl
theorem Tryf.size3 : (Tryf.prog.info? 3).map (·.size) = some 1 := by kernel_rfl
theorem Tryf.info9 : (Tryf.prog.info? 9).map (fun i => (i.zero, i.size, i.bytes)) = some (some (.string ⟨#[]⟩), 1, 16) := by kernel_rfl
theorem Tryf.size9 : (Tryf.prog.info? 9).map (·.size) = some 1 := by kernel_rfl

/-- The value v is a row of the call's own of n elements, the cells xs. -/
def Held (B e n : Nat) (xs : List Value) (v : Value) (wx : World) : Prop := (∃ c a, v = .slice a n c) ∧ wx.ownsRow B e 1 v n xs

theorem ints_one (zs : List Int) : ∀ v ∈ zs.map (Value.int .i64), v.oneCell' = true := by
  intro v hv
  obtain ⟨z, _, rfl⟩ := List.mem_map.1 hv
  rfl
theorem strs_one (ss : List ByteArray) : ∀ v ∈ ss.map Value.string, v.oneCell' = true := by
  intro v hv
  obtain ⟨z, _, rfl⟩ := List.mem_map.1 hv
  rfl

theorem below_cell {w w' : World} (hb : Below w.heap.size w w') {a : Addr} {v : Value} (h : w.cell? a = some v) : w'.cell? a = some v :=
  (hb.cell (World.block_lt_of_cell? w a h)).trans h

/-- A new row made and then filled: the old world with new blocks alone. -/
theorem grown_none {w w1 w2 : World} {g : Nat} (h1 : w.grownBy w1 none) (h2 : w1.grownBy w2 (some g)) (hg : w.heap.size ≤ g) : w.grownBy w2 none :=
  ⟨h2.os.trans h1.os, h2.tape.trans h1.tape, h2.output.trans h1.output, Nat.le_trans h1.size h2.size, fun k hk _ => by
    rw [h2.block k (Nat.lt_of_lt_of_le hk h1.size) (by simp; omega), h1.block k hk (by simp)]⟩

theorem Ints.src {w w1 : World} {x : Addr} {n : Nat} {zs : List Int} (h : Ints w (some x) n zs) (hg : ∀ a v, w.cell? a = some v → w1.cell? a = some v) :
    0 < n → ∃ ad, some x = some ad ∧ ∀ j v, (zs.map (Value.int .i64))[j]? = some v → w1.cell? (ad.add j) = some v := by
  intro hn
  obtain ⟨ad, hx, hc⟩ := h.2 hn
  refine ⟨ad, hx, fun j v hj => ?_⟩
  rw [List.getElem?_map] at hj
  obtain ⟨z, hz, rfl⟩ := Option.map_eq_some_iff.1 hj
  exact hg _ _ (hc j z hz)

theorem strs_src {w w1 : World} {x : Addr} {n : Nat} {ss : List ByteArray} (h : Strs w (some x) n ss) (hg : ∀ a v, w.cell? a = some v → w1.cell? a = some v) :
    0 < n → ∃ ad, some x = some ad ∧ ∀ j v, (ss.map Value.string)[j]? = some v → w1.cell? (ad.add j) = some v := by
  intro hn
  obtain ⟨b, off, hx, hb, hc⟩ := h.2 hn
  refine ⟨_, hx, fun j v hj => ?_⟩
  rw [List.getElem?_map] at hj
  obtain ⟨z, hz, rfl⟩ := Option.map_eq_some_iff.1 hj
  rw [Addr.add_lit]
  exact hg _ _ (hc j z hz)

/-- A row that another one's turn leaves alone. -/
theorem kept_off {w w' : World} {base e : Nat} {v : Value} {n g : Nat} {xs : List Value} (h : w.ownsRow base e 1 v n xs) (hg : w.grownBy w' (some g)) (hne : ∀ k, v.ownBlock = some k → k ≠ g) : w'.ownsRow base e 1 v n xs :=
  h.kept hg (Or.inr fun he => hne g he rfl)

theorem grown_trans {w w1 w2 : World} {r : Option Nat} (h1 : w.grownBy w1 r) (h2 : w1.grownBy w2 r) : w.grownBy w2 r :=
  ⟨h2.os.trans h1.os, h2.tape.trans h1.tape, h2.output.trans h1.output, Nat.le_trans h1.size h2.size, fun k hk hne => (h2.block k (Nat.lt_of_lt_of_le hk h1.size) hne).trans (h1.block k hk hne)⟩

theorem owned_src {w : World} {base e n c : Nat} {a : Option Addr} {xs : List Value} (h : w.ownsRow base e 1 (.slice a n c) n xs) :
    0 < n → ∃ ad, a = some ad ∧ ∀ j v, xs[j]? = some v → w.cell? (ad.add j) = some v := by
  intro hn
  have hc := @World.ownsRow.cells _ _ _ _ _ _ _ h
  rcases h.2 with ⟨_, h0⟩ | ⟨g, cap, cur, hv, _⟩
  · omega
  · obtain ⟨rfl, _⟩ : a = some ⟨g, 0, none⟩ ∧ c = cap := by simpa using hv
    exact ⟨_, rfl, hc rfl⟩

theorem fresh_tail (z : Value) (hz : z.cells = #[z]) (n : Nat) : (madeCells z.cells ((n + 1) * 1)).toList.drop n = [z] := by
  rw [made_zeros z hz, List.drop_replicate, Nat.add_sub_cancel_left]
  rfl

theorem last_cell (xs : List Value) (z : Value) (n : Nat) (h : xs.length = n) : (xs ++ [z])[n]? = some z := by
  subst h
  simp

theorem last_set (xs : List Value) (z u : Value) (n : Nat) (h : xs.length = n) : (xs ++ [z]).set n u = xs ++ [u] := by
  subst h
  simp

theorem strs_lists (ms : List ByteArray) : ms.map Value.string = (ms.map (fun m => m.data.toList)).map (fun m => Value.string ⟨m.toArray⟩) := by
  rw [List.map_map]
  exact List.map_congr_left fun m _ => by simp

theorem cnt_nat (n : Nat) : cntText (n : Int) = headB ++ (Lib.decDigits n ++ midB) := by rw [cntText, Lib.itoa_nonneg]

/-- The text with a first line, as the laws on its parts read it. -/
theorem text_some (s : ByteArray) (n : Nat) (L : Int) (M : List UInt8) (h : s = ⟨(cntText (n : Int) ++ tailText L M).toArray⟩) : s.data.toList.drop 0 = headB ++ (Lib.decDigits n ++ (midB ++ tailText L M)) := by
  subst h
  simp [cnt_nat]

theorem text_zero (s : ByteArray) (h : s = ⟨(cntText 0).toArray⟩) : s.data.toList.drop 0 = headB ++ (Lib.decDigits 0 ++ midB) := by
  subst h
  simpa using cnt_nat 0

theorem tail_len (L : Int) (M : List UInt8) (hw : (Lit.int .i64 L).wf = true) : (tailText L M).length ≤ 100 + M.length := by
  have := FmtText.itoa_length_le hw
  have lf : firstB.length = 20 := rfl
  have lc : colB.length = 2 := rfl
  simp only [tailText, List.length_append]
  omega

theorem size_zero (s : ByteArray) (h : s = ⟨(cntText 0).toArray⟩) : s.size = 76 := by
  have e := text_zero s h
  have h1 : s.data.toList.length = s.size := Array.length_toList
  rw [List.drop_zero] at e
  rw [← h1, e, List.length_append, List.length_append, Lib.decDigits_length, Lib.nDigits_small (by decide)]
  rfl

theorem size_some (s : ByteArray) (n : Nat) (L : Int) (M : List UInt8) (h : s = ⟨(cntText (n : Int) ++ tailText L M).toArray⟩) : s.size = 12 + Lib.nDigits n + 63 + (tailText L M).length := by
  have e := text_some s n L M h
  have h1 : s.data.toList.length = s.size := Array.length_toList
  have lh : headB.length = 12 := rfl
  have lm : midB.length = 63 := rfl
  rw [List.drop_zero] at e
  rw [← h1, e, List.length_append, List.length_append, List.length_append, Lib.decDigits_length, lh, lm]
  omega

/-- Behind the count both texts read the same. -/
theorem text_rest (s : ByteArray) (n E : Nat) (L : Int) (M : List UInt8) (h : s = ⟨(cntText (n : Int) ++ tailText L M).toArray⟩) (hE : E = 12 + Lib.nDigits n) : (s.extract E s.size).toList = midB ++ tailText L M := by
  have h12 := Scan.drop_of_drop s 0 headB _ (text_some s n L M h)
  have h13 := Scan.drop_of_drop s _ _ _ h12
  rw [Lib.decDigits_length] at h13
  subst hE
  rw [extract_list]
  exact h13

theorem tail_pos (u : Nat) (M : List UInt8) : (tailText (u : Int) M).length = 22 + Lib.nDigits u + M.length := by
  have lf : firstB.length = 20 := rfl
  have lc : colB.length = 2 := rfl
  rw [tailText, Lib.itoa_nonneg, List.length_append, List.length_append, List.length_append, Lib.decDigits_length, lf, lc]
  omega

theorem tail_neg (u : Nat) (h : 1 ≤ u) (M : List UInt8) : (tailText (-(u : Int)) M).length = 23 + Lib.nDigits u + M.length := by
  have lf : firstB.length = 20 := rfl
  have lc : colB.length = 2 := rfl
  rw [tailText, Lib.itoa_neg u h, List.length_append, List.length_append, List.length_append, List.length_cons, Lib.decDigits_length, lf, lc]
  omega

set_option maxRecDepth 100000 in
set_option maxHeartbeats 6400000 in
theorem law_walk (F : Interp) (al af am : Option Addr) (ll cl lf cf lm cm : Nat) (zs : List Int) (fs ms : List ByteArray) (x : Int) (ef em : ByteArray) (w : World) (hF : F.told.answers w.tape)
    (HL : Hid (Ints w al ll zs)) (HF : Hid (Strs w af lf fs)) (HM : Hid (Strs w am lm ms)) (HX : Hid (-9223372036854775808 ≤ x ∧ x ≤ 9223372036854775807)) (HZ : Hid (∀ z ∈ zs, (Lit.int .i64 z).wf = true))
    (nl : Hid (al = none → cl = 0)) (nf : Hid (af = none → cf = 0)) (nm : Hid (am = none → cm = 0))
    (hl : (ll : Int) ≤ 9223372036854775807) (hf : (lf : Int) ≤ 9223372036854775807) (hm : (lm : Int) ≤ 9223372036854775807) (he : (ef.size : Int) ≤ 9223372036854775807) (hem : (em.size : Int) ≤ 9223372036854775807) :
    Calls Tryf.prog 3 #[.slice al ll cl, .slice af lf cf, .slice am lm cm, .int .i64 x, .string ef, .string em] w fun e w' => e = .returned (.bool true) ∧ Below w.heap.size w w' := by
  go_enter Tryf.func3, Tryf.ntmps3
  go_wp2_with fail
  refine (Bytes.zz_any al af am ll cl lf cf lm cm fs ms x ef em w HF HM hl hf hm).mono ?_
  rintro e w' ⟨b, rfl, hsm, rfl⟩
  cases b with
  | false =>
    clear hsm
    go_wp2
    go_ret
    exact ⟨rfl, Below.refl _ _⟩
  | true =>
    obtain ⟨hSF, hSM⟩ := hsm rfl
    have HSF := Bytes.hidden hSF
    have HSM := Bytes.hidden hSM
    clear hSF hSM hsm
    by_cases c1 : (65536 : Int) < ll
    · go_wp2
      go_ret
      exact ⟨rfl, Below.refl _ _⟩
    have c1' : (ll : Int) ≤ 65536 := by omega
    clear c1
    by_cases c2 : (65536 : Int) < lf
    · go_wp2
      go_ret
      exact ⟨rfl, Below.refl _ _⟩
    have c2' : (lf : Int) ≤ 65536 := by omega
    clear c2
    by_cases c3 : (65536 : Int) < lm
    · go_wp2
      go_ret
      exact ⟨rfl, Below.refl _ _⟩
    have c3' : (lm : Int) ≤ 65536 := by omega
    clear c3
    by_cases c4 : (1048576 : Int) < ef.size
    · go_wp2
      go_ret
      exact ⟨rfl, Below.refl _ _⟩
    have c4' : (ef.size : Int) ≤ 1048576 := by omega
    clear c4
    by_cases c5 : (1048576 : Int) < em.size
    · go_wp2
      go_ret
      exact ⟨rfl, Below.refl _ _⟩
    have c5' : (em.size : Int) ≤ 1048576 := by omega
    clear c5 hl hf hm he hem
    go_wp2_with fail
    refine (Bytes.re_any af am lf cf lm cm fs ms w HF HM HSF HSM c2' c3').mono ?_
    rintro e w' ⟨T, rfl, hT0, hT1, rfl⟩
    by_cases c6 : (1048576 : Int) < 8 * (ll : Int) + 8 + T + (ef.size : Int) + (em.size : Int)
    · go_wp2
      go_ret
      exact ⟨rfl, Below.refl _ _⟩
    have c6' : 8 * (ll : Int) + 8 + T + (ef.size : Int) + (em.size : Int) ≤ 1048576 := by omega
    clear c6
    by_cases c7 : lf = ll
    case neg =>
      have c7' : ((lf : Int) != (ll : Int)) = true := by rw [bne_iff_ne]; omega
      clear c7
      go_wp2
      go_ret
      exact ⟨rfl, Below.refl _ _⟩
    subst c7
    by_cases c8 : lm = lf
    case neg =>
      have c8' : ((lm : Int) != (lf : Int)) = true := by rw [bne_iff_ne]; omega
      clear c8
      go_wp2
      go_ret
      exact ⟨rfl, Below.refl _ _⟩
    subst c8
    have q1 := fun w => run_neq_slice_nil_any (P := Tryf.prog) w 22 3 al lm cl 0 0 Tryf.underlying22
    have q2 := fun w => run_neq_slice_nil_any (P := Tryf.prog) w 23 9 af lm cf 0 0 Tryf.underlying23
    have q3 := fun w => run_neq_slice_nil_any (P := Tryf.prog) w 23 9 am lm cm 0 0 Tryf.underlying23
    obtain ⟨i3, hi3, z30, z31, z32⟩ := info_parts Tryf.info3
    obtain ⟨i9, hi9, z90, z91, z92⟩ := info_parts Tryf.info9
    go_upto_if 87 with fail
    go_cut [0, 13] (fun s0 s13 wx => Held w.heap.size 3 lm (zs.map (Value.int .i64)) s0 wx ∧ Below w.heap.size w wx)
    case first =>
      cases al with
      | none =>
        go_wp2
        go_meet
        have h0 : lm = 0 := by
          rcases Nat.eq_zero_or_pos lm with h | h
          · exact h
          · obtain ⟨ad, h1, _⟩ := HL.out.2 h
            cases h1
        have hc0 : cl = 0 := by simpa using nl.out
        subst h0 hc0
        have hzs : zs = [] := List.eq_nil_of_length_eq_zero HL.out.1
        subst hzs
        exact ⟨⟨⟨_, _, rfl⟩, World.ownsRow_nil _ _ _ _⟩, Below.refl _ _⟩
      | some ad =>
        go_wp2_with (at_make; refine wpList_make_full _ rfl _ _ 22 rfl w.heap.size 3 i3 (.int .i64 0) 1 Tryf.underlying22 hi3 z30 z31 .i64 .i64 _ _ lm rfl rfl rfl rfl (by rw [z32]; omega) (by unfold maxLen; omega) (Nat.le_refl _) ?_; intro w1 hown1 hgrow1)
        obtain ⟨w2, hrun, hown2, hgrow2⟩ := run_copy_full (P := Tryf.prog) w1 22 3 3 Tryf.underlying22 Tryf.size3 w.heap.size lm w.heap.size lm _ hown1 (some ad) lm cl (zs.map (Value.int .i64)) (by rw [List.length_map]; exact HL.out.1) (Nat.le_refl _) (HL.out.src (fun a v h => hgrow1.cell h (by simp))) (ints_one _)
        rw [hrun]
        clear hrun
        go_wp2
        go_meet
        rw [List.drop_eq_nil_of_le (by rw [made_zeros _ rfl, List.length_replicate]; exact Nat.le_refl _), List.append_nil] at hown2
        exact ⟨⟨⟨_, _, rfl⟩, hown2⟩, (Below.refl _ w).grown (grown_none hgrow1 hgrow2 (Nat.le_refl _)) (Nat.le_refl _) (fun k hk => by cases hk)⟩
    case rest =>
    clear q1
    obtain ⟨⟨⟨c0, a0, rfl⟩, ho0⟩, hb0⟩ := hcut
    have HO0 := Bytes.hidden ho0
    have HB0 := Bytes.hidden hb0
    have hz0 := hb0.size
    clear ho0 hb0
    obtain ⟨wc0, hwc0⟩ : ∃ w', w' = wc := ⟨_, rfl⟩
    subst hwc0
    go_upto_if 96 with fail
    go_cut [1, 14] (fun s1 s2 wx => Held w.heap.size 9 lm (fs.map Value.string) s1 wx ∧ wx.ownsRow w.heap.size 3 1 (.slice a0 lm c0) lm (zs.map (Value.int .i64)) ∧ Below w.heap.size w wx)
    case first =>
      cases af with
      | none =>
        go_wp2
        go_meet
        have h0 : lm = 0 := by
          rcases Nat.eq_zero_or_pos lm with h | h
          · exact h
          · obtain ⟨b, off, h1, _⟩ := HF.out.2 h
            cases h1
        have hc0 : cf = 0 := by simpa using nf.out
        subst h0 hc0
        have hzs : fs = [] := List.eq_nil_of_length_eq_zero HF.out.1
        subst hzs
        exact ⟨⟨⟨_, _, rfl⟩, World.ownsRow_nil _ _ _ _⟩, HO0.out, HB0.out⟩
      | some ad =>
        go_wp2_with (at_make; refine wpList_make_full _ rfl _ _ 23 rfl w.heap.size 9 i9 (.string ⟨#[]⟩) 1 Tryf.underlying23 hi9 z90 z91 .i64 .i64 _ _ lm rfl rfl rfl rfl (by rw [z92]; omega) (by unfold maxLen; omega) hz0 ?_; intro w1 hown1 hgrow1)
        obtain ⟨w2, hrun, hown2, hgrow2⟩ := run_copy_full (P := Tryf.prog) w1 23 3 9 Tryf.underlying23 Tryf.size9 w.heap.size lm wc0.heap.size lm _ hown1 (some ad) lm cf (fs.map Value.string) (by rw [List.length_map]; exact HF.out.1) (Nat.le_refl _) (strs_src HF.out (fun a v h => hgrow1.cell (below_cell HB0.out h) (by simp))) (strs_one _)
        rw [hrun]
        clear hrun
        go_wp2
        go_meet
        rw [List.drop_eq_nil_of_le (by rw [made_zeros _ rfl, List.length_replicate]; exact Nat.le_refl _), List.append_nil] at hown2
        have gg : wc0.grownBy w2 none := grown_none hgrow1 hgrow2 (Nat.le_refl _)
        exact ⟨⟨⟨_, _, rfl⟩, hown2⟩, HO0.out.kept gg (Classical.em _), HB0.out.grown gg hz0 (fun k hk => by cases hk)⟩
    case rest =>
    clear q2
    clear HO0 HB0 hz0
    obtain ⟨⟨⟨c1, a1, rfl⟩, ho1⟩, ho0, hb1⟩ := hcut
    have HO0 := Bytes.hidden ho0
    have HO1 := Bytes.hidden ho1
    have HB1 := Bytes.hidden hb1
    have hz1 := hb1.size
    clear ho0 ho1 hb1
    obtain ⟨wc1, hwc1⟩ : ∃ w', w' = wc := ⟨_, rfl⟩
    subst hwc1
    go_upto_if 105 with fail
    go_cut [2, 15] (fun s1 s2 wx => Held w.heap.size 9 lm (ms.map Value.string) s1 wx ∧ wx.ownsRow w.heap.size 3 1 (.slice a0 lm c0) lm (zs.map (Value.int .i64)) ∧ wx.ownsRow w.heap.size 9 1 (.slice a1 lm c1) lm (fs.map Value.string) ∧ Below w.heap.size w wx)
    case first =>
      cases am with
      | none =>
        go_wp2
        go_meet
        have h0 : lm = 0 := by
          rcases Nat.eq_zero_or_pos lm with h | h
          · exact h
          · obtain ⟨b, off, h1, _⟩ := HM.out.2 h
            cases h1
        have hc0 : cm = 0 := by simpa using nm.out
        subst h0 hc0
        have hzs : ms = [] := List.eq_nil_of_length_eq_zero HM.out.1
        subst hzs
        exact ⟨⟨⟨_, _, rfl⟩, World.ownsRow_nil _ _ _ _⟩, HO0.out, HO1.out, HB1.out⟩
      | some ad =>
        go_wp2_with (at_make; refine wpList_make_full _ rfl _ _ 23 rfl w.heap.size 9 i9 (.string ⟨#[]⟩) 1 Tryf.underlying23 hi9 z90 z91 .i64 .i64 _ _ lm rfl rfl rfl rfl (by rw [z92]; omega) (by unfold maxLen; omega) hz1 ?_; intro w1 hown1 hgrow1)
        obtain ⟨w2, hrun, hown2, hgrow2⟩ := run_copy_full (P := Tryf.prog) w1 23 3 9 Tryf.underlying23 Tryf.size9 w.heap.size lm wc1.heap.size lm _ hown1 (some ad) lm cm (ms.map Value.string) (by rw [List.length_map]; exact HM.out.1) (Nat.le_refl _) (strs_src HM.out (fun a v h => hgrow1.cell (below_cell HB1.out h) (by simp))) (strs_one _)
        rw [hrun]
        clear hrun
        go_wp2
        go_meet
        rw [List.drop_eq_nil_of_le (by rw [made_zeros _ rfl, List.length_replicate]; exact Nat.le_refl _), List.append_nil] at hown2
        have gg : wc1.grownBy w2 none := grown_none hgrow1 hgrow2 (Nat.le_refl _)
        exact ⟨⟨⟨_, _, rfl⟩, hown2⟩, HO0.out.kept gg (Classical.em _), HO1.out.kept gg (Classical.em _), HB1.out.grown gg hz1 (fun k hk => by cases hk)⟩
    case rest =>
    clear q3 HO0 HO1 HB1 hz1
    obtain ⟨⟨⟨c2, a2, rfl⟩, ho2⟩, ho0, ho1, hb2⟩ := hcut
    have HO0 := Bytes.hidden ho0
    have HO1 := Bytes.hidden ho1
    have HO2 := Bytes.hidden ho2
    have HB2 := Bytes.hidden hb2
    have hz2 := hb2.size
    clear ho0 ho1 ho2 hb2
    obtain ⟨wc2, hwc2⟩ : ∃ w', w' = wc := ⟨_, rfl⟩
    subst hwc2
    have lz := Bytes.hidden (show (zs.map (Value.int .i64)).length = lm by rw [List.length_map]; exact HL.out.1)
    have lfs := Bytes.hidden (show (fs.map Value.string).length = lm by rw [List.length_map]; exact HF.out.1)
    have lms := Bytes.hidden (show (ms.map Value.string).length = lm by rw [List.length_map]; exact HM.out.1)
    go_wp2_with (at_make; first
      | (refine wpList_make_full _ rfl _ _ 22 rfl w.heap.size 3 i3 (.int .i64 0) 1 Tryf.underlying22 hi3 z30 z31 .i64 .i64 _ _ (lm + 1) rfl rfl rfl rfl (by rw [z32]; omega) (by unfold maxLen; omega) hz2 ?_
         intro w1 hown1 hgrow1
         have b1 : wc2.heap.size < w1.heap.size := (hown1.lt _ rfl).2
         have b1' : w.heap.size ≤ w1.heap.size := by omega)
      | (refine wpList_make_full _ rfl _ _ 23 rfl w.heap.size 9 i9 (.string ⟨#[]⟩) 1 Tryf.underlying23 hi9 z90 z91 .i64 .i64 _ _ (lm + 1) rfl rfl rfl rfl (by rw [z92]; omega) (by unfold maxLen; omega) b1' ?_
         intro w2 hown2 hgrow2
         have b2 : w1.heap.size < w2.heap.size := (hown2.lt _ rfl).2
         have b2' : w.heap.size ≤ w2.heap.size := by omega)
      | (refine wpList_make_full _ rfl _ _ 23 rfl w.heap.size 9 i9 (.string ⟨#[]⟩) 1 Tryf.underlying23 hi9 z90 z91 .i64 .i64 _ _ (lm + 1) rfl rfl rfl rfl (by rw [z92]; omega) (by unfold maxLen; omega) b2' ?_
         intro w3 hown3 hgrow3
         have b3 : w2.heap.size < w3.heap.size := (hown3.lt _ rfl).2))
    have k0 : ∀ k, (Value.slice a0 lm c0).ownBlock = some k → k < wc2.heap.size := fun k hk => (HO0.out.lt k hk).2
    have k1 : ∀ k, (Value.slice a1 lm c1).ownBlock = some k → k < wc2.heap.size := fun k hk => (HO1.out.lt k hk).2
    have k2 : ∀ k, (Value.slice a2 lm c2).ownBlock = some k → k < wc2.heap.size := fun k hk => (HO2.out.lt k hk).2
    have g3 : wc2.grownBy w3 none := grown_trans (grown_trans hgrow1 hgrow2) hgrow3
    have p0 := HO0.out.kept g3 (Classical.em _)
    have p1 := HO1.out.kept g3 (Classical.em _)
    have p2 := HO2.out.kept g3 (Classical.em _)
    have p3 := hown1.kept (grown_trans hgrow2 hgrow3) (Classical.em _)
    have p4 := hown2.kept hgrow3 (Classical.em _)
    have p5 := hown3
    obtain ⟨w4, hrun, q3, hgrow4⟩ := run_copy_full (P := Tryf.prog) w3 22 3 3 Tryf.underlying22 Tryf.size3 w.heap.size (lm + 1) wc2.heap.size (lm + 1) _ p3 a0 lm c0 (zs.map (Value.int .i64)) lz.out (Nat.le_succ _) (owned_src p0) (ints_one _)
    rw [hrun]
    clear hrun p3
    rw [fresh_tail _ rfl] at q3
    replace p0 := kept_off p0 hgrow4 (fun k hk => Nat.ne_of_lt (k0 k hk))
    replace p1 := kept_off p1 hgrow4 (fun k hk => Nat.ne_of_lt (k1 k hk))
    replace p2 := kept_off p2 hgrow4 (fun k hk => Nat.ne_of_lt (k2 k hk))
    replace p4 := kept_off p4 hgrow4 (fun k hk => by cases hk; exact Nat.ne_of_gt b1)
    replace p5 := kept_off p5 hgrow4 (fun k hk => by cases hk; exact Nat.ne_of_gt (Nat.lt_trans b1 b2))
    obtain ⟨w5, hrun5, q4, hgrow5⟩ := run_copy_full (P := Tryf.prog) w4 23 3 9 Tryf.underlying23 Tryf.size9 w.heap.size (lm + 1) w1.heap.size (lm + 1) _ p4 a1 lm c1 (fs.map Value.string) lfs.out (Nat.le_succ _) (owned_src p1) (strs_one _)
    clear p4
    rw [fresh_tail _ rfl] at q4
    replace p0 := kept_off p0 hgrow5 (fun k hk => Nat.ne_of_lt (Nat.lt_trans (k0 k hk) b1))
    replace p1 := kept_off p1 hgrow5 (fun k hk => Nat.ne_of_lt (Nat.lt_trans (k1 k hk) b1))
    replace p2 := kept_off p2 hgrow5 (fun k hk => Nat.ne_of_lt (Nat.lt_trans (k2 k hk) b1))
    replace q3 := kept_off q3 hgrow5 (fun k hk => by cases hk; exact Nat.ne_of_lt b1)
    replace p5 := kept_off p5 hgrow5 (fun k hk => by cases hk; exact Nat.ne_of_gt b2)
    obtain ⟨w6, hrun6, q5, hgrow6⟩ := run_copy_full (P := Tryf.prog) w5 23 3 9 Tryf.underlying23 Tryf.size9 w.heap.size (lm + 1) w2.heap.size (lm + 1) _ p5 a2 lm c2 (ms.map Value.string) lms.out (Nat.le_succ _) (owned_src p2) (strs_one _)
    clear p5
    rw [fresh_tail _ rfl] at q5
    have b12 := Nat.lt_trans b1 b2
    replace p0 := kept_off p0 hgrow6 (fun k hk => Nat.ne_of_lt (Nat.lt_trans (k0 k hk) b12))
    replace p1 := kept_off p1 hgrow6 (fun k hk => Nat.ne_of_lt (Nat.lt_trans (k1 k hk) b12))
    replace p2 := kept_off p2 hgrow6 (fun k hk => Nat.ne_of_lt (Nat.lt_trans (k2 k hk) b12))
    replace q3 := kept_off q3 hgrow6 (fun k hk => by cases hk; exact Nat.ne_of_lt b12)
    replace q4 := kept_off q4 hgrow6 (fun k hk => by cases hk; exact Nat.ne_of_lt b2)
    -- the three stores
    have e1 := (q3.cellAt lm (by omega)).trans (last_cell _ _ _ lz.out)
    have f1 := q3.frozenAt lm
    obtain ⟨r3, hgrow7⟩ := q3.stored lm (.int .i64 x)
    rw [last_set _ _ _ _ lz.out] at r3
    replace p0 := kept_off p0 hgrow7 (fun k hk => Nat.ne_of_lt (k0 k hk))
    replace p1 := kept_off p1 hgrow7 (fun k hk => Nat.ne_of_lt (k1 k hk))
    replace p2 := kept_off p2 hgrow7 (fun k hk => Nat.ne_of_lt (k2 k hk))
    replace q4 := kept_off q4 hgrow7 (fun k hk => by cases hk; exact Nat.ne_of_gt b1)
    replace q5 := kept_off q5 hgrow7 (fun k hk => by cases hk; exact Nat.ne_of_gt b12)
    have e2 := (q4.cellAt lm (by omega)).trans (last_cell _ _ _ lfs.out)
    have f2 := q4.frozenAt lm
    obtain ⟨r4, hgrow8⟩ := q4.stored lm (.string ef)
    rw [last_set _ _ _ _ lfs.out] at r4
    replace p0 := kept_off p0 hgrow8 (fun k hk => Nat.ne_of_lt (Nat.lt_trans (k0 k hk) b1))
    replace p1 := kept_off p1 hgrow8 (fun k hk => Nat.ne_of_lt (Nat.lt_trans (k1 k hk) b1))
    replace p2 := kept_off p2 hgrow8 (fun k hk => Nat.ne_of_lt (Nat.lt_trans (k2 k hk) b1))
    replace r3 := kept_off r3 hgrow8 (fun k hk => by cases hk; exact Nat.ne_of_lt b1)
    replace q5 := kept_off q5 hgrow8 (fun k hk => by cases hk; exact Nat.ne_of_gt b2)
    have e3 := (q5.cellAt lm (by omega)).trans (last_cell _ _ _ lms.out)
    have f3 := q5.frozenAt lm
    obtain ⟨r5, hgrow9⟩ := q5.stored lm (.string em)
    rw [last_set _ _ _ _ lms.out] at r5
    replace p0 := kept_off p0 hgrow9 (fun k hk => Nat.ne_of_lt (Nat.lt_trans (k0 k hk) b12))
    replace p1 := kept_off p1 hgrow9 (fun k hk => Nat.ne_of_lt (Nat.lt_trans (k1 k hk) b12))
    replace p2 := kept_off p2 hgrow9 (fun k hk => Nat.ne_of_lt (Nat.lt_trans (k2 k hk) b12))
    replace r3 := kept_off r3 hgrow9 (fun k hk => by cases hk; exact Nat.ne_of_lt b12)
    replace r4 := kept_off r4 hgrow9 (fun k hk => by cases hk; exact Nat.ne_of_lt b2)
    have hB9 := ((((((HB2.out.grown g3 hz2 (fun k hk => by cases hk)).grown hgrow4 (Nat.le_trans hz2 g3.size) (fun k hk => by cases hk; exact hz2)).grown hgrow5 (Nat.le_trans (Nat.le_trans hz2 g3.size) hgrow4.size) (fun k hk => by cases hk; exact b1')).grown hgrow6 (Nat.le_trans (Nat.le_trans (Nat.le_trans hz2 g3.size) hgrow4.size) hgrow5.size) (fun k hk => by cases hk; exact b2'))))
    have hB7 := hB9.grown hgrow7 hB9.size (fun k hk => by cases hk; exact hz2)
    have hB8 := hB7.grown hgrow8 hB7.size (fun k hk => by cases hk; exact b1')
    have hB10 := Bytes.hidden (hB8.grown hgrow9 hB8.size (fun k hk => by cases hk; exact b2'))
    have P0 := Bytes.hidden p0
    have P1 := Bytes.hidden p1
    have P2 := Bytes.hidden p2
    have R3 := Bytes.hidden r3
    have R4 := Bytes.hidden r4
    have R5 := Bytes.hidden r5
    have HF0 := Bytes.hidden hF
    clear p0 p1 p2 r3 r4 r5 q3 q4 q5 hB9 hB7 hB8
    go_wp2_with fail
    clear e1 e2 e3 f1 f2 f3 hrun5 hrun6 hgrow1 hgrow2 hgrow3 hgrow4 hgrow5 hgrow6 hgrow7 hgrow8 hgrow9 hown1 hown2 hown3 g3 k0 k1 k2 HO0 HO1 HO2 HB2
    generalize (((w6.setCell _ _).setCell _ _).setCell _ _) = w9 at P0 P1 P2 R3 R4 R5 hB10 ⊢
    have HL0 := Bytes.hidden (show zs.headD x = zs.headD x from rfl)
    obtain ⟨L0, hL0⟩ : ∃ L, L = zs.headD x := ⟨_, rfl⟩
    obtain ⟨M0, hM0⟩ : ∃ M, M = (ms.map (fun m => m.data.toList)).headD em.data.toList := ⟨_, rfl⟩
    have HW := Bytes.hidden (show (Lit.int .i64 L0).wf = true from by
      subst hL0
      cases zs with
      | nil => exact WalkArith.wf_i64 HX.out
      | cons z zs => exact HZ.out z (List.mem_cons_self ..))
    have hM1 : M0.length ≤ 1048576 := by
      subst hM0
      cases ms with
      | nil =>
        have h1 : em.data.toList.length = em.size := Array.length_toList
        show em.data.toList.length ≤ _
        omega
      | cons m ms =>
        have h1 : m.data.toList.length = m.size := Array.length_toList
        have h2 := HM.out.1
        have h3 := HSM.out 0 m (by rw [← h2]; exact Nat.succ_pos _) rfl
        show m.data.toList.length ≤ _
        omega
    have H0 := Bytes.hidden (show 0 < lm → zs[0]? = some L0 ∧ (ms.map (fun m => m.data.toList))[0]? = some M0 from by
      intro h
      have h1 := HL.out.1
      have h2 := HM.out.1
      subst hL0 hM0
      cases zs with
      | nil => exact absurd h1 (Nat.ne_of_lt h)
      | cons z zs => cases ms with
        | nil => exact absurd h2 (Nat.ne_of_lt h)
        | cons m ms => exact ⟨rfl, rfl⟩)
    have H1 := Bytes.hidden (show 0 < lm + 1 → (zs ++ [x])[0]? = some L0 ∧ (ms.map (fun m => m.data.toList) ++ [em.data.toList])[0]? = some M0 from by
      intro _
      subst hL0 hM0
      constructor
      · cases zs <;> rfl
      · cases ms <;> rfl)
    have HX0 := Bytes.hidden (show lm = 0 → L0 = x ∧ M0 = em.data.toList from by
      intro h
      have h1 := HL.out.1
      have h2 := HM.out.1
      subst hL0 hM0 h
      obtain rfl := List.eq_nil_of_length_eq_zero h1
      obtain rfl := List.eq_nil_of_length_eq_zero h2
      exact ⟨rfl, rfl⟩)
    clear hL0 hM0 HL0
    have Q2 := Bytes.hidden (strs_lists ms ▸ P2.out)
    refine (build_walk F w.heap.size _ _ _ lm zs fs (ms.map (fun m => m.data.toList)) w9 (by rw [hB10.out.tape]; exact HF0.out) P0 P1 Q2 ⟨_, _, rfl⟩ (by omega) L0 M0 H0 HW (by omega)).mono ?_
    rintro e w10 ⟨rfl, hb10⟩
    have T3 := Bytes.hidden (show w10.ownsRow w.heap.size 3 1 (.slice (some ⟨wc2.heap.size, 0, none⟩) (lm + 1) (lm + 1)) (lm + 1) ((zs ++ [x]).map (Value.int .i64)) from by
      have h := owned_below R3.out hb10
      rw [List.map_append]
      exact h)
    have T4 := Bytes.hidden (show w10.ownsRow w.heap.size 9 1 (.slice (some ⟨w1.heap.size, 0, none⟩) (lm + 1) (lm + 1)) (lm + 1) ((fs ++ [ef]).map Value.string) from by
      have h := owned_below R4.out hb10
      rw [List.map_append]
      exact h)
    have T5 := Bytes.hidden (show w10.ownsRow w.heap.size 9 1 (.slice (some ⟨w2.heap.size, 0, none⟩) (lm + 1) (lm + 1)) (lm + 1) ((ms.map (fun m => m.data.toList) ++ [em.data.toList]).map (fun m => Value.string ⟨m.toArray⟩)) from by
      have h := owned_below R5.out hb10
      rw [List.map_append, ← strs_lists]
      exact h)
    have hB11 := Bytes.hidden (hB10.out.trans (hb10.mono hB10.out.size))
    clear R3 R4 R5 P0 P1 P2 Q2 hb10 hB10
    obtain ⟨sA, hsA⟩ : ∃ s : ByteArray, s = ⟨(if lm = 0 then cntText 0 else cntText lm ++ tailText L0 M0).toArray⟩ := ⟨_, rfl⟩
    rw [← hsA]
    have HA := Bytes.hidden hsA
    clear hsA
    go_wp2_with fail
    refine (build_walk F w.heap.size _ _ _ (lm + 1) (zs ++ [x]) (fs ++ [ef]) (ms.map (fun m => m.data.toList) ++ [em.data.toList]) w10 (by rw [hB11.out.tape]; exact HF0.out) T3 T4 T5 ⟨_, _, rfl⟩ (by omega) L0 M0 H1 HW (by omega)).mono ?_
    rintro e w11 ⟨rfl, hb11⟩
    have hB12 := Bytes.hidden (hB11.out.trans (hb11.mono hB11.out.size))
    clear T3 T4 T5 hb11 hB11
    rw [if_neg (Nat.succ_ne_zero lm)]
    obtain ⟨sB, hsB⟩ : ∃ s : ByteArray, s = ⟨(cntText ((lm + 1 : Nat) : Int) ++ tailText L0 M0).toArray⟩ := ⟨_, rfl⟩
    rw [← hsB]
    have HB := Bytes.hidden hsB
    clear hsB
    have sB1 := size_some sB (lm + 1) L0 M0 HB.out
    have sB2 := tail_len L0 M0 HW.out
    have sB3 := nDigits_19 (lm + 1) (by omega)
    have tB : (sB.size : Int) ≤ 100000000 := by omega
    by_cases h0 : lm = 0
    · have hA := HA.out
      rw [if_pos h0] at hA
      have tA : (sA.size : Int) = 76 := by rw [size_zero sA hA]; rfl
      have UA := Bytes.hidden (text_zero sA hA)
      obtain ⟨hL, hM⟩ := HX0.out h0
      have HV := Bytes.hidden (show sB.data.toList.drop 0 = headB ++ (Lib.decDigits 1 ++ (midB ++ tailText x em.data.toList)) from by
        have h := text_some sB (lm + 1) L0 M0 HB.out
        rw [h0, hL, hM] at h
        exact h)
      have hem : em.data.toList.length = em.size := Array.length_toList
      rw [hL, hM] at sB1
      have np := Lib.nDigits_pos (lm + 1)
      clear hA hL hM
      rcases Int.lt_or_le x 0 with hx | hx
      · obtain ⟨u, rfl⟩ : ∃ u : Nat, x = -(u : Int) := ⟨(-x).toNat, by omega⟩
        have hu1 : 1 ≤ u := by omega
        have hu2 : (u : Int) ≤ 9223372036854775808 := by have := HX.out.1; omega
        rw [tail_neg u hu1] at sB1
        have nu := Lib.nDigits_pos u
        have V := Bytes.hidden (show sB.data.toList.drop 0 = headB ++ (Lib.decDigits 1 ++ (midB ++ (firstB ++ (45 :: (Lib.decDigits u ++ (colB ++ em.data.toList)))))) from by
          rw [HV.out, tailText, Lib.itoa_neg u hu1]
          rfl)
        obtain ⟨EE, hEE⟩ : ∃ e, e = 96 + 1 + Lib.nDigits u := ⟨_, rfl⟩
        have l1 : EE + 2 ≤ sB.size := by omega
        have l2 : 97 ≤ EE := by omega
        have HE := Bytes.hidden hEE
        have hu3 : (1 : Int) ≤ u := by omega
        clear HV hEE sB1 sB2 sB3 np nu hem HB hu1 hx
        go_wp2_with fail
        refine (tells_zero_walk sA w11 tA UA).mono ?_
        rintro e w12 ⟨rfl, hb12⟩
        go_wp2_with fail
        refine (tells_one_neg sB u EE em.data.toList em w12 tB HE l1 l2 hu2 hu3 V (Bytes.hidden rfl)).mono ?_
        rintro e w13 ⟨rfl, hb13⟩
        go_wp2
        go_ret
        have b1 := hB12.out.trans (hb12.mono hB12.out.size)
        exact ⟨rfl, b1.trans (hb13.mono b1.size)⟩
      · obtain ⟨u, rfl⟩ : ∃ u : Nat, x = (u : Int) := ⟨x.toNat, by omega⟩
        have hu2 : (u : Int) ≤ 9223372036854775807 := HX.out.2
        rw [tail_pos u] at sB1
        have nu := Lib.nDigits_pos u
        have V := Bytes.hidden (show sB.data.toList.drop 0 = headB ++ (Lib.decDigits 1 ++ (midB ++ (firstB ++ (Lib.decDigits u ++ (colB ++ em.data.toList))))) from by
          rw [HV.out, tailText, Lib.itoa_nonneg u])
        obtain ⟨EE, hEE⟩ : ∃ e, e = 96 + Lib.nDigits u := ⟨_, rfl⟩
        have l1 : EE + 2 ≤ sB.size := by omega
        have l2 : 97 ≤ EE := by omega
        have HE := Bytes.hidden hEE
        clear HV hEE sB1 sB2 sB3 np nu hem HB hx
        go_wp2_with fail
        refine (tells_zero_walk sA w11 tA UA).mono ?_
        rintro e w12 ⟨rfl, hb12⟩
        go_wp2_with fail
        refine (tells_one_pos sB u EE em.data.toList em w12 tB HE l1 l2 hu2 V (Bytes.hidden rfl)).mono ?_
        rintro e w13 ⟨rfl, hb13⟩
        go_wp2
        go_ret
        have b1 := hB12.out.trans (hb12.mono hB12.out.size)
        exact ⟨rfl, b1.trans (hb13.mono b1.size)⟩
    · have hA := HA.out
      rw [if_neg h0] at hA
      have sA1 := size_some sA lm L0 M0 hA
      have sA3 := nDigits_19 lm (by omega)
      have tA : (sA.size : Int) ≤ 100000000 := by omega
      have hnz : ((lm : Int) == 0) = false := by rw [beq_eq_false_iff_ne]; omega
      obtain ⟨n1, hn1⟩ : ∃ k : Nat, k = lm + 1 := ⟨_, rfl⟩
      have hB := HB.out
      rw [← hn1] at hB sB1
      have xA := text_some sA lm L0 M0 hA
      have xB := text_some sB n1 L0 M0 hB
      have XA := Bytes.hidden xA
      have XB := Bytes.hidden xB
      have YA := Bytes.hidden (Scan.drop_of_drop sA 0 headB _ xA)
      have YB := Bytes.hidden (Scan.drop_of_drop sB 0 headB _ xB)
      obtain ⟨E1, hE1⟩ : ∃ e, e = 12 + Lib.nDigits lm := ⟨_, rfl⟩
      obtain ⟨E2, hE2⟩ : ∃ e, e = 12 + Lib.nDigits n1 := ⟨_, rfl⟩
      have hfin : ((sA.extract E1 sA.size).toList == (sB.extract E2 sB.size).toList) = true := by
        rw [beq_iff_eq, text_rest sA lm E1 L0 M0 hA hE1, text_rest sB n1 E2 L0 M0 hB hE2]
      have m1 : (E1 : Int) ≤ sA.size := by omega
      have m2 : (E2 : Int) ≤ sB.size := by omega
      have m3 : 12 ≤ sA.size := by omega
      have m4 : 12 ≤ sB.size := by omega
      have m5 : ((n1 : Int) != (lm : Int) + 1) = false := by rw [bne_eq_false_iff_eq]; omega
      have m6 : n1 ≤ 9223372036854775808 := by omega
      have m7 : lm ≤ 9223372036854775808 := by omega
      have G1 := Bytes.hidden hE1
      have G2 := Bytes.hidden hE2
      have M6 := Bytes.hidden m6
      have M7 := Bytes.hidden m7
      clear hA hB xA xB hE1 hE2 sB1 sB2 sB3 sA1 sA3 HB HA h0 hn1 m6 m7 hM1
      go_wp2_with fail
      refine (reAt_is sA ⟨#[108, 101, 116, 116, 101, 114, 102, 111, 108, 100, 58, 32]⟩ _ 0 _ _ rfl (Nat.zero_le _) tA XA.out).mono ?_
      rintro e w12 ⟨rfl, hb12⟩
      go_wp2_with fail
      refine (reAt_is sB ⟨#[108, 101, 116, 116, 101, 114, 102, 111, 108, 100, 58, 32]⟩ _ 0 _ _ rfl (Nat.zero_le _) tB XB.out).mono ?_
      rintro e w13 ⟨rfl, hb13⟩
      go_wp2_with fail
      refine (dec_pos_is sA _ (E1 : Int) 12 lm _ _ rfl (by rw [G1.out]) m3 tA M7.out YA.out (noDigit_mid' _)).mono ?_
      rintro e w14 ⟨rfl, rfl⟩
      go_wp2_with fail
      refine (dec_pos_is sB _ (E2 : Int) 12 n1 _ _ rfl (by rw [G2.out]) m4 tB M6.out YB.out (noDigit_mid' _)).mono ?_
      rintro e w15 ⟨rfl, rfl⟩
      have b1 := hB12.out.trans (hb12.mono hB12.out.size)
      have B2 := Bytes.hidden (b1.trans (hb13.mono b1.size))
      clear b1
      go_wp2
      go_region
      all_goals
        go_wp2
        go_ret
        exact ⟨rfl, B2.out.drew⟩

end Go.Proofs.Qxb6612277aFmt
