/-
  THE WALK OVER zzUnquote at a quoted text.
-/
import Derived.Test.Qxb6609533aFmtUnq
namespace Go.Proofs.Qxb6609533aFmt
open Go.RowKit Go.Extern Plain

/-- What holds at each round's head: k bytes of the body are read; the rest are pieces; what they stand for is still to come. -/
def At (base : Nat) (b : ByteArray) (s : List UInt8) (w : World) (v i : Value) (wr : World) : Prop :=
  ∃ (k : Nat) (cs : List (List UInt8 × List UInt8)) (acc : List UInt8), k ≤ b.size ∧ i = .int .i64 k ∧ (∀ c ∈ cs, Chunk c) ∧ b.data.toList.drop k = (cs.map (·.1)).flatten ∧ s = acc ++ (cs.map (·.2)).flatten ∧ acc.length ≤ s.length ∧ Buf base wr v acc ∧ Below base w wr

theorem at_next {base : Nat} {b : ByteArray} {s : List UInt8} {w wr' : World} {k : Nat} {c : List UInt8 × List UInt8} {cs : List (List UInt8 × List UInt8)} {acc : List UInt8} {v' i' : Value}
    (hk : k ≤ b.size) (HCS : Hid (∀ x ∈ c :: cs, Chunk x)) (HD : Hid (b.data.toList.drop k = ((c :: cs).map (·.1)).flatten)) (HS : Hid (s = acc ++ ((c :: cs).map (·.2)).flatten))
    (hi : i' = .int .i64 ((k + c.1.length : Nat) : Int)) (hb : Buf base wr' v' (acc ++ c.2)) (hw : Below base w wr') : At base b s w v' i' wr' := by
  have hd := HD.out
  rw [List.map_cons, List.flatten_cons] at hd
  have hsz := size_of_drop b k _ _ hk hd
  have hs := HS.out
  rw [List.map_cons, List.flatten_cons, ← List.append_assoc] at hs
  refine ⟨k + c.1.length, cs, acc ++ c.2, by omega, hi, fun x hx => HCS.out x (List.mem_cons_of_mem _ hx), drop_of_drop b k _ _ hd, hs, ?_, hb, hw⟩
  rw [hs]
  simp only [List.length_append]
  omega

theorem chunk_len {b : ByteArray} {k : Nat} {c : List UInt8 × List UInt8} {cs : List (List UInt8 × List UInt8)} (hk : k ≤ b.size) (HD : Hid (b.data.toList.drop k = ((c :: cs).map (·.1)).flatten)) : k + c.1.length ≤ b.size := by
  have hd := HD.out
  rw [List.map_cons, List.flatten_cons] at hd
  have hsz := size_of_drop b k _ _ hk hd
  omega

theorem chunk_get {b : ByteArray} {k : Nat} {c : List UInt8 × List UInt8} {cs : List (List UInt8 × List UInt8)} (HD : Hid (b.data.toList.drop k = ((c :: cs).map (·.1)).flatten)) (j : Nat) (hj : j < c.1.length) (h : k + j < b.size) : b[k + j] = c.1[j] := by
  have hd := HD.out
  rw [List.map_cons, List.flatten_cons] at hd
  exact getElem_of_drop b k j _ _ hd hj h

theorem hexLen (r n : Nat) : (FmtText.hexDigits r n).length = n := by
  induction n with
  | zero => rfl
  | succ n ih => simp [FmtText.hexDigits, ih]

theorem hex_at' (s : ByteArray) (p n r : Nat) (R A N : Int) (hR : R = r) (hA : A = p) (hN : N = n) (rest pre : List UInt8) (w : World) (hs : s.size ≤ 100000000) (hn : n ≤ 8) (k : Nat) (hk : k ≤ s.size) (hr : r < 16 ^ n)
    (hp : p = k + pre.length) (hd : s.data.toList.drop k = (pre ++ FmtText.hexDigits r n) ++ rest) :
    Calls Tryf.prog 10 #[.string s, .int .i64 A, .int .i64 N] w fun e w' => e = .returned (.tuple #[.int .u32 R, .bool true]) ∧ w = w' := by
  subst hR
  exact hex_at s p n r A N hA hN rest pre w hs hn k hk hr hp hd

theorem rune_at (base : Nat) (v : Value) (l : List UInt8) (r : Nat) (R : Int) (hR : R = r) (w : World) (hb : Buf base w v l) (hbase : base ≤ w.heap.size) (hl : l.length ≤ 1000000) (h2 : r ≤ 1114111) :
    Calls Tryf.prog 11 #[v, .int .u32 R] w (RuneEnds base l (enc r) w) := by
  subst hR
  exact rune_any base v l r w hb hbase hl h2

theorem eq34 (x : UInt8) (h : x ≠ 34) : (((x.toNat : Nat) : Int) == 34) = false := by
  have e34 : x = 34 ↔ x.toNat = 34 := by rw [← UInt8.toNat_inj]; rfl
  rw [beq_eq_false_iff_ne]
  intro h2
  exact h (e34.2 (by omega))
theorem ne92 (x : UInt8) (h : x ≠ 92) : (((x.toNat : Nat) : Int) != 92) = true := by
  have e92 : x = 92 ↔ x.toNat = 92 := by rw [← UInt8.toNat_inj]; rfl
  rw [bne_iff_ne]
  intro h2
  exact h (e92.2 (by omega))

set_option maxHeartbeats 800000 in
set_option maxRecDepth 100000 in
theorem unquote_walk (q : ByteArray) (s : List UInt8) (w : World) (b : ByteArray) (hq2 : 2 ≤ q.size) (hq3 : q.size ≤ 1000000) (hq0 : ((((q[0]'(by omega)).toNat : Nat) : Int) != 34) = false) (hq1 : ((((q[q.size - 1]'(by omega)).toNat : Nat) : Int) != 34) = false)
    (HB : Hid (q.extract 1 (q.size - 1) = b)) (hbs : b.size ≤ 1000000) (hs : s.length ≤ 1000000) (HP : Hid (Pieces b.data.toList s)) :
    Calls Tryf.prog 7 #[.string q] w fun e w' => e = .returned (.tuple #[.string ⟨s.toArray⟩, .bool true]) ∧ Below w.heap.size w w' := by
  go_enter Tryf.func7, Tryf.ntmps7
  go_wp2_with (at_make; refine buf_make _ rfl _ _ rfl w.heap.size _ (q.size - 1 - 1) rfl rfl rfl (by omega) (Nat.le_refl _) ?_; intro v1 w1 hb1 hw1)
  rw [HB.out]
  go_loopw [6, 7] (fun v i wr => At w.heap.size b s w v i wr) (fun _ i _ => b.size - (intOf i).toNat)
  case atStart =>
    obtain ⟨cs, h1, h2, h3⟩ := HP.out
    exact ⟨0, cs, [], Nat.zero_le _, rfl, h1, h2, h3, by simp, hb1, hw1⟩
  case round =>
    clear HP hb1 hw1
    obtain ⟨k, cs, acc, hk, rfl, hcs, hd, hsa, hal, hb, hw⟩ := hrel
    have HD := hidden hd
    have HS := hidden hsa
    have HCS := hidden hcs
    have hz := hw.size
    clear hd hsa hcs
    cases cs with
    | nil =>
      have hkk : b.size ≤ k := by
        have := HD.out
        simp only [List.map_nil, List.flatten_nil, List.drop_eq_nil_iff] at this
        simpa using this
      have hcv := buf_string hb
      go_wp2
      go_ret2
      have := HS.out
      simp at this
      subst this
      exact ⟨rfl, hw⟩
    | cons c cs =>
      have hlen := chunk_len hk HD
      rcases HCS.out c (by simp) with ⟨x, hx1, hx2, rfl⟩ | ⟨e, y, he, rfl⟩ | ⟨r, hr, rfl⟩ | ⟨r, hr, hv, rfl⟩ | ⟨r, hr1, hr2, rfl⟩
      · have hkl : k < b.size := by simp at hlen; omega
        have hg : b[k] = x := chunk_get HD 0 (by simp) (by simpa using hkl)
        have t1 := eq34 b[k] (by rw [hg]; exact hx1)
        have t2 := ne92 b[k] (by rw [hg]; exact hx2)
        have HG := hidden hg
        clear hg hx1 hx2 hlen
        go_wp2_with (at_builtin; refine buf_append _ rfl _ _ rfl w.heap.size _ _ rfl (hb.alloc _) ⟨wr.heap.size, 0, none⟩ 1 1 [b[k]] rfl rfl (cell_one_new _ _ _) (by omega) (by simp; omega) ?_; intro v2 w2 hb2 hw2)
        go_roundw
        case rel => exact at_next hk HCS HD HS (by go_num) (by rw [HG.out] at hb2; exact hb2) ((hw.alloc hz _).trans hw2)
        case measure => simp [intOf]; omega
      · have hkl : k + 1 < b.size := by simp at hlen; omega
        have hg0 : b[k] = 92 := chunk_get HD 0 (by simp) (by omega)
        have hg1 : b[k + 1] = e := chunk_get HD 1 (by simp) hkl
        have g0 : (((b[k]'(by omega)).toNat : Nat) : Int) = 92 := by rw [hg0]; rfl
        clear hlen hg0
        simp only [simples, List.mem_cons, Prod.mk.injEq, List.not_mem_nil, or_false] at he
        rcases he with ⟨rfl, rfl⟩ | ⟨rfl, rfl⟩ | ⟨rfl, rfl⟩ | ⟨rfl, rfl⟩ | ⟨rfl, rfl⟩ | ⟨rfl, rfl⟩ | ⟨rfl, rfl⟩ | ⟨rfl, rfl⟩ | ⟨rfl, rfl⟩
        · have g1 : (((b[k + 1]'hkl).toNat : Nat) : Int) = 97 := by rw [hg1]; rfl
          clear hg1
          go_wp2_with (at_builtin; refine buf_append _ rfl _ _ rfl w.heap.size _ _ rfl (hb.alloc _) ⟨wr.heap.size, 0, none⟩ 1 1 [7] rfl rfl (cell_one_new _ _ _) (by omega) (by simp; omega) ?_; intro v2 w2 hb2 hw2)
          go_roundw
          case rel => exact at_next hk HCS HD HS (by go_num) hb2 ((hw.alloc hz _).trans hw2)
          case measure => simp [intOf]; omega
        · have g1 : (((b[k + 1]'hkl).toNat : Nat) : Int) = 98 := by rw [hg1]; rfl
          clear hg1
          go_wp2_with (at_builtin; refine buf_append _ rfl _ _ rfl w.heap.size _ _ rfl (hb.alloc _) ⟨wr.heap.size, 0, none⟩ 1 1 [8] rfl rfl (cell_one_new _ _ _) (by omega) (by simp; omega) ?_; intro v2 w2 hb2 hw2)
          go_roundw
          case rel => exact at_next hk HCS HD HS (by go_num) hb2 ((hw.alloc hz _).trans hw2)
          case measure => simp [intOf]; omega
        · have g1 : (((b[k + 1]'hkl).toNat : Nat) : Int) = 102 := by rw [hg1]; rfl
          clear hg1
          go_wp2_with (at_builtin; refine buf_append _ rfl _ _ rfl w.heap.size _ _ rfl (hb.alloc _) ⟨wr.heap.size, 0, none⟩ 1 1 [12] rfl rfl (cell_one_new _ _ _) (by omega) (by simp; omega) ?_; intro v2 w2 hb2 hw2)
          go_roundw
          case rel => exact at_next hk HCS HD HS (by go_num) hb2 ((hw.alloc hz _).trans hw2)
          case measure => simp [intOf]; omega
        · have g1 : (((b[k + 1]'hkl).toNat : Nat) : Int) = 110 := by rw [hg1]; rfl
          clear hg1
          go_wp2_with (at_builtin; refine buf_append _ rfl _ _ rfl w.heap.size _ _ rfl (hb.alloc _) ⟨wr.heap.size, 0, none⟩ 1 1 [10] rfl rfl (cell_one_new _ _ _) (by omega) (by simp; omega) ?_; intro v2 w2 hb2 hw2)
          go_roundw
          case rel => exact at_next hk HCS HD HS (by go_num) hb2 ((hw.alloc hz _).trans hw2)
          case measure => simp [intOf]; omega
        · have g1 : (((b[k + 1]'hkl).toNat : Nat) : Int) = 114 := by rw [hg1]; rfl
          clear hg1
          go_wp2_with (at_builtin; refine buf_append _ rfl _ _ rfl w.heap.size _ _ rfl (hb.alloc _) ⟨wr.heap.size, 0, none⟩ 1 1 [13] rfl rfl (cell_one_new _ _ _) (by omega) (by simp; omega) ?_; intro v2 w2 hb2 hw2)
          go_roundw
          case rel => exact at_next hk HCS HD HS (by go_num) hb2 ((hw.alloc hz _).trans hw2)
          case measure => simp [intOf]; omega
        · have g1 : (((b[k + 1]'hkl).toNat : Nat) : Int) = 116 := by rw [hg1]; rfl
          clear hg1
          go_wp2_with (at_builtin; refine buf_append _ rfl _ _ rfl w.heap.size _ _ rfl (hb.alloc _) ⟨wr.heap.size, 0, none⟩ 1 1 [9] rfl rfl (cell_one_new _ _ _) (by omega) (by simp; omega) ?_; intro v2 w2 hb2 hw2)
          go_roundw
          case rel => exact at_next hk HCS HD HS (by go_num) hb2 ((hw.alloc hz _).trans hw2)
          case measure => simp [intOf]; omega
        · have g1 : (((b[k + 1]'hkl).toNat : Nat) : Int) = 118 := by rw [hg1]; rfl
          clear hg1
          go_wp2_with (at_builtin; refine buf_append _ rfl _ _ rfl w.heap.size _ _ rfl (hb.alloc _) ⟨wr.heap.size, 0, none⟩ 1 1 [11] rfl rfl (cell_one_new _ _ _) (by omega) (by simp; omega) ?_; intro v2 w2 hb2 hw2)
          go_roundw
          case rel => exact at_next hk HCS HD HS (by go_num) hb2 ((hw.alloc hz _).trans hw2)
          case measure => simp [intOf]; omega
        · have g1 : (((b[k + 1]'hkl).toNat : Nat) : Int) = 92 := by rw [hg1]; rfl
          clear hg1
          go_wp2_with (at_builtin; refine buf_append _ rfl _ _ rfl w.heap.size _ _ rfl (hb.alloc _) ⟨wr.heap.size, 0, none⟩ 1 1 [92] rfl rfl (cell_one_new _ _ _) (by omega) (by simp; omega) ?_; intro v2 w2 hb2 hw2)
          go_roundw
          case rel => exact at_next hk HCS HD HS (by go_num) hb2 ((hw.alloc hz _).trans hw2)
          case measure => simp [intOf]; omega
        · have g1 : (((b[k + 1]'hkl).toNat : Nat) : Int) = 34 := by rw [hg1]; rfl
          clear hg1
          go_wp2_with (at_builtin; refine buf_append _ rfl _ _ rfl w.heap.size _ _ rfl (hb.alloc _) ⟨wr.heap.size, 0, none⟩ 1 1 [34] rfl rfl (cell_one_new _ _ _) (by omega) (by simp; omega) ?_; intro v2 w2 hb2 hw2)
          go_roundw
          case rel => exact at_next hk HCS HD HS (by go_num) hb2 ((hw.alloc hz _).trans hw2)
          case measure => simp [intOf]; omega
      · have hkl : k + 3 < b.size := by simp [hexLen] at hlen; omega
        have hg0 : b[k] = 92 := chunk_get HD 0 (by simp) (by omega)
        have hg1 : b[k + 1] = 120 := chunk_get HD 1 (by simp) (by omega)
        have g0 : (((b[k]'(by omega)).toNat : Nat) : Int) = 92 := by rw [hg0]; rfl
        have g1 : (((b[k + 1]'(by omega)).toNat : Nat) : Int) = 120 := by rw [hg1]; rfl
        have HH : Hid (b.data.toList.drop k = ([92, 120] ++ FmtText.hexDigits r 2) ++ (cs.map (·.1)).flatten) := by
          have := HD.out
          rw [List.map_cons, List.flatten_cons] at this
          exact this
        have r1 : (r : Int) < 256 := by omega
        have HN : Hid (B8 [UInt8.ofNat r] = [.int .u8 r]) := by unfold Hid; simp [B8]; omega
        clear hr
        clear hlen hg0 hg1
        go_wp2_with fail
        refine (hex_at b (k + 2) 2 r _ _ (by omega) rfl _ [92, 120] _ (by omega) (by decide) k hk (by omega) rfl HH.out).mono ?_
        rintro e w' ⟨rfl, rfl⟩
        go_wp2_with (at_builtin; refine buf_append _ rfl _ _ rfl w.heap.size _ _ rfl (hb.alloc _) ⟨wr.heap.size, 0, none⟩ 1 1 [UInt8.ofNat r] rfl rfl (vals_new wr _ _ 5 HN.out) (by omega) (by simp; omega) ?_; intro v2 w2 hb2 hw2)
        go_roundw
        case rel => exact at_next hk HCS HD HS (by simp [hexLen]; omega) hb2 ((hw.alloc hz _).trans hw2)
        case measure => simp [intOf]; omega
      · have hkl : k + 5 < b.size := by simp [hexLen] at hlen; omega
        have hg0 : b[k] = 92 := chunk_get HD 0 (by simp) (by omega)
        have hg1 : b[k + 1] = 117 := chunk_get HD 1 (by simp) (by omega)
        have g0 : (((b[k]'(by omega)).toNat : Nat) : Int) = 92 := by rw [hg0]; rfl
        have g1 : (((b[k + 1]'(by omega)).toNat : Nat) : Int) = 117 := by rw [hg1]; rfl
        have HH : Hid (b.data.toList.drop k = ([92, 117] ++ FmtText.hexDigits r 4) ++ (cs.map (·.1)).flatten) := by
          have := HD.out
          rw [List.map_cons, List.flatten_cons] at this
          exact this
        obtain ⟨R, hR⟩ : ∃ R : Int, R = r := ⟨_, rfl⟩
        have r0 : 0 ≤ R := by omega
        have r1 : R < 65536 := by omega
        have HR := hidden hR
        have HV := hidden hr
        clear hr hv hR
        clear hlen hg0 hg1
        go_wp2_with fail
        refine (hex_at' b (k + 2) 4 r R _ _ HR.out (by omega) rfl _ [92, 117] _ (by omega) (by decide) k hk (by have := HV.out; omega) rfl HH.out).mono ?_
        rintro e w' ⟨rfl, rfl⟩
        go_wp2_with fail
        refine (rune_at w.heap.size _ acc r R HR.out _ hb hz (by omega) (by have := HV.out; omega)).mono ?_
        rintro e w' ⟨v2, rfl, hb2, hw2⟩
        go_wp2
        go_roundw
        case rel => exact at_next hk HCS HD HS (by simp [hexLen]; omega) hb2 (hw.trans hw2)
        case measure => simp [intOf]; omega
      · have hkl : k + 9 < b.size := by simp [hexLen] at hlen; omega
        have hg0 : b[k] = 92 := chunk_get HD 0 (by simp) (by omega)
        have hg1 : b[k + 1] = 85 := chunk_get HD 1 (by simp) (by omega)
        have g0 : (((b[k]'(by omega)).toNat : Nat) : Int) = 92 := by rw [hg0]; rfl
        have g1 : (((b[k + 1]'(by omega)).toNat : Nat) : Int) = 85 := by rw [hg1]; rfl
        have HH : Hid (b.data.toList.drop k = ([92, 85] ++ FmtText.hexDigits r 8) ++ (cs.map (·.1)).flatten) := by
          have := HD.out
          rw [List.map_cons, List.flatten_cons] at this
          exact this
        obtain ⟨R, hR⟩ : ∃ R : Int, R = r := ⟨_, rfl⟩
        have r0 : 0 ≤ R := by omega
        have r1 : R ≤ 1114111 := by omega
        have HR := hidden hR
        have HV := hidden hr2
        clear hr1 hr2 hR
        clear hlen hg0 hg1
        go_wp2_with fail
        refine (hex_at' b (k + 2) 8 r R _ _ HR.out (by omega) rfl _ [92, 85] _ (by omega) (by decide) k hk (by have := HV.out; omega) rfl HH.out).mono ?_
        rintro e w' ⟨rfl, rfl⟩
        go_wp2_with fail
        refine (rune_at w.heap.size _ acc r R HR.out _ hb hz (by omega) (by have := HV.out; omega)).mono ?_
        rintro e w' ⟨v2, rfl, hb2, hw2⟩
        go_wp2
        go_roundw
        case rel => exact at_next hk HCS HD HS (by simp [hexLen]; omega) hb2 (hw.trans hw2)
        case measure => simp [intOf]; omega

end Go.Proofs.Qxb6609533aFmt
