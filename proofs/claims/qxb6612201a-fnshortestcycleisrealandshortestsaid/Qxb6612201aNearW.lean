/-
  WALKS: scNearest, scLowest.
-/
import Derived.Test.Qxb6612201aDistW
import Derived.Test.Qxb6612201aCyc
namespace Go.Proofs.Qxb6612201a
open Go.RowKit
set_option linter.unusedVariables false
set_option linter.unusedSimpArgs false

/-- The least distance among the successors below k, other than s. -/
def NearAt (E : Nat → Nat → Prop) (n s k : Nat) (ds : List Int) (b : Int) : Prop :=
  (b < 0 → b = -1 ∧ ∀ v, v < k → v ≠ s → E s v → dAt ds v < 0) ∧ (0 ≤ b → (∃ v, v < n ∧ v ≠ s ∧ E s v ∧ dAt ds v = b) ∧ ∀ v, v < k → v ≠ s → E s v → 0 ≤ dAt ds v → b ≤ dAt ds v)

def NearPost (E : Nat → Nat → Prop) (n s : Nat) (ds : List Int) (w : World) (e : Ending) (w' : World) : Prop := ∃ b : Int, e = .returned (.int .i64 b) ∧ NearAt E n s n ds b ∧ w = w'

/-- The lowest successor at a level, or none. -/
def LowestPost (E : Nat → Nat → Prop) (n u : Nat) (ds : List Int) (level : Int) (w : World) (e : Ending) (w' : World) : Prop :=
  ((∃ x : Nat, e = .returned (.int .i64 (x : Int)) ∧ x < n ∧ IsLow E (dAt ds) u level x) ∨ (e = .returned (.int .i64 (-1)) ∧ ∀ x, x < n → ¬ (E u x ∧ dAt ds x = level))) ∧ w = w'

set_option maxHeartbeats 12800000 in
set_option maxRecDepth 100000 in
theorem nearest_any (E : Nat → Nat → Prop) (ga gd NN n s : Nat) (bs : List Bool) (ds : List Int) (w : World) (hn : (n : Int) ≤ 1024) (hs : (s : Int) < n) (HNN : Hid (NN = n * n)) (ha : Hid (ReadsB w ga NN bs)) (hd : Hid (Reads w gd n ds)) (hA : Hid (Adj E n bs)) :
    Calls Try.prog 9 #[.slice (some ⟨ga, 0, none⟩) NN NN, .int .i64 n, .int .i64 s, .slice (some ⟨gd, 0, none⟩) n n] w fun e w' => NearPost E n s ds w e w' := by
  obtain ⟨y, hy⟩ : ∃ y : Nat, y = s * n := ⟨_, rfl⟩
  have hy1 : y + n ≤ NN := by
    have h1 : (s + 1) * n ≤ n * n := Nat.mul_le_mul_right n (by omega)
    rw [Nat.add_mul, Nat.one_mul] at h1
    have := HNN.out
    omega
  have hN1 : (NN : Int) ≤ 1048576 := by
    have : n * n ≤ 1024 * 1024 := Nat.mul_le_mul (by omega) (by omega)
    have := HNN.out
    omega
  have hy2 : (s : Int) * (n : Int) = y := by rw [hy]; simp
  have wy : IntKind.i64.wrap ((s : Int) * (n : Int)) = (y : Int) := by rw [hy2]; simp [IntKind.wrap, IntKind.bits, IntKind.signed]; omega
  have HY := hidden hy
  have HY1 := hidden hy1
  clear hy hy1 hy2
  go_enter Try.func9, Try.ntmps9
  go_wp2_with fail
  go_loopw [9, 10] (fun vb vv wr => ∃ (v : Nat) (b : Int), vb = .int .i64 b ∧ vv = .int .i64 v ∧ v ≤ n ∧ Hid (NearAt E n s v ds b) ∧ w = wr) (fun _ vv _ => n - (intOf vv).toNat)
  case atStart => exact ⟨0, -1, rfl, rfl, Nat.zero_le _, hidden ⟨fun _ => ⟨rfl, fun v hv => by omega⟩, fun h => by omega⟩, rfl⟩
  case round =>
    obtain ⟨v, b, rfl, rfl, hvn, hI, rfl⟩ := hrel
    by_cases hlt : (v : Int) < n
    case neg =>
      go_wp2_with fail
      go_returns
      have : n = v := by omega
      subst this
      exact ⟨b, rfl, hI.out, rfl⟩
    obtain ⟨x, hx⟩ : ∃ x : Nat, x = y + v := ⟨_, rfl⟩
    have hxn : x < NN := by have := HY1.out; omega
    have x1 : (y : Int) + (v : Int) = x := by omega
    have x2 : IntKind.i64.wrap ((y : Int) + (v : Int)) = (x : Int) := by rw [x1]; simp [IntKind.wrap, IntKind.bits, IntKind.signed]; omega
    have x3 : (x : Int) < NN := by omega
    have x4 : (0 : Int) ≤ (x : Int) := by omega
    have bv0 : (0 : Int) ≤ (v : Int) := by omega
    have ca := ha.out.2.2 x hxn
    have hRx : bAt bs x = true ↔ E s v := by
      rw [hx, HY.out]
      exact hA.out.2 _ _ (by omega) (by omega)
    have cd := hd.out.2.2 v (by omega)
    rw [iAt_dAt ds v (by have := hd.out.1; omega)] at cd
    obtain ⟨t, ht⟩ : ∃ b, b = bAt bs x := ⟨_, rfl⟩
    obtain ⟨dv, hdv⟩ : ∃ b, b = dAt ds v := ⟨_, rfl⟩
    rw [← ht] at ca hRx
    rw [← hdv] at cd
    have HR := hidden hRx
    have HDV := hidden hdv
    clear hRx ht hdv hx hxn x1
    have hnot : Hid ((v ≠ s → E s v → dv < 0) → NearAt E n s (v + 1) ds b) := hidden fun h => by
      refine ⟨fun hb => ⟨(hI.out.1 hb).1, fun z hz hzs hE => ?_⟩, fun hb => ⟨(hI.out.2 hb).1, fun z hz hzs hE h0 => ?_⟩⟩
      · by_cases e : z = v
        · subst e; rw [← HDV.out]; exact h hzs hE
        · exact (hI.out.1 hb).2 z (by omega) hzs hE
      · by_cases e : z = v
        · subst e; have := h hzs hE; rw [HDV.out] at this; omega
        · exact (hI.out.2 hb).2 z (by omega) hzs hE h0
    by_cases hvs : v = s
    · have t0 : ((v : Int) != (s : Int)) = false := by rw [bne_eq_false_iff_eq]; omega
      have HVS := hidden hvs
      clear hvs
      go_wp2_with fail
      go_roundw
      case rel => exact ⟨v + 1, b, rfl, by go_num, by omega, hidden (hnot.out fun h => absurd HVS.out h), trivial⟩
      case measure => simp [intOf]; omega
    have t0 : ((v : Int) != (s : Int)) = true := by rw [bne_iff_ne]; omega
    have HVS := hidden hvs
    clear hvs
    cases t with
    | false =>
      go_wp2_with fail
      go_roundw
      case rel => exact ⟨v + 1, b, rfl, by go_num, by omega, hidden (hnot.out fun _ h => by have := HR.out.2 h; cases this), trivial⟩
      case measure => simp [intOf]; omega
    | true =>
      by_cases h0 : 0 ≤ dv
      case neg =>
        go_wp2_with fail
        go_roundw
        case rel => exact ⟨v + 1, b, rfl, by go_num, by omega, hidden (hnot.out fun _ _ => by omega), trivial⟩
        case measure => simp [intOf]; omega
      by_cases h1 : b < 0 ∨ dv < b
      · have hnew : Hid (NearAt E n s (v + 1) ds dv) := hidden ⟨fun h => by omega, fun _ => ⟨⟨v, by omega, HVS.out, HR.out.1 rfl, HDV.out.symm⟩, fun z hz hzs hE hz0 => by
          by_cases e : z = v
          · subst e; rw [← HDV.out]; exact Int.le_refl _
          · rcases Int.lt_or_le b 0 with hb | hb
            · have := (hI.out.1 hb).2 z (by omega) hzs hE; omega
            · have := (hI.out.2 hb).2 z (by omega) hzs hE hz0; omega⟩⟩
        rcases h1 with h1 | h1
        · go_wp2_with fail
          go_roundw
          case rel => exact ⟨v + 1, dv, rfl, by go_num, by omega, hnew, trivial⟩
          case measure => simp [intOf]; omega
        · by_cases h2 : b < 0
          · go_wp2_with fail
            go_roundw
            case rel => exact ⟨v + 1, dv, rfl, by go_num, by omega, hnew, trivial⟩
            case measure => simp [intOf]; omega
          · go_wp2_with fail
            go_roundw
            case rel => exact ⟨v + 1, dv, rfl, by go_num, by omega, hnew, trivial⟩
            case measure => simp [intOf]; omega
      · have h2 : 0 ≤ b := by omega
        have h3 : b ≤ dv := by omega
        have hnew : Hid (NearAt E n s (v + 1) ds b) := hidden ⟨fun h => by omega, fun _ => ⟨(hI.out.2 h2).1, fun z hz hzs hE hz0 => by
          by_cases e : z = v
          · subst e; rw [← HDV.out]; exact h3
          · exact (hI.out.2 h2).2 z (by omega) hzs hE hz0⟩⟩
        clear h1
        go_wp2_with fail
        go_roundw
        case rel => exact ⟨v + 1, b, rfl, by go_num, by omega, hnew, trivial⟩
        case measure => simp [intOf]; omega

set_option maxHeartbeats 12800000 in
set_option maxRecDepth 100000 in
theorem lowestS_any (E : Nat → Nat → Prop) (ga gd NN n u : Nat) (bs : List Bool) (ds : List Int) (level : Int) (w : World) (hn : (n : Int) ≤ 1024) (hu : (u : Int) < n) (HNN : Hid (NN = n * n)) (ha : Hid (ReadsB w ga NN bs)) (hd : Hid (Reads w gd n ds)) (hA : Hid (Adj E n bs)) :
    Calls Try.prog 10 #[.slice (some ⟨ga, 0, none⟩) NN NN, .int .i64 n, .int .i64 u, .slice (some ⟨gd, 0, none⟩) n n, .int .i64 level] w fun e w' => LowestPost E n u ds level w e w' := by
  obtain ⟨y, hy⟩ : ∃ y : Nat, y = u * n := ⟨_, rfl⟩
  have hy1 : y + n ≤ NN := by
    have h1 : (u + 1) * n ≤ n * n := Nat.mul_le_mul_right n (by omega)
    rw [Nat.add_mul, Nat.one_mul] at h1
    have := HNN.out
    omega
  have hN1 : (NN : Int) ≤ 1048576 := by
    have : n * n ≤ 1024 * 1024 := Nat.mul_le_mul (by omega) (by omega)
    have := HNN.out
    omega
  have hy2 : (u : Int) * (n : Int) = y := by rw [hy]; simp
  have wy : IntKind.i64.wrap ((u : Int) * (n : Int)) = (y : Int) := by rw [hy2]; simp [IntKind.wrap, IntKind.bits, IntKind.signed]; omega
  have HY := hidden hy
  have HY1 := hidden hy1
  clear hy hy1 hy2
  go_enter Try.func10, Try.ntmps10
  go_wp2_with fail
  go_loopw [11] (fun vv wr => ∃ v : Nat, vv = .int .i64 v ∧ v ≤ n ∧ Hid (∀ x, x < v → ¬ (E u x ∧ dAt ds x = level)) ∧ w = wr) (fun vv _ => n - (intOf vv).toNat)
  case atStart => exact ⟨0, rfl, Nat.zero_le _, hidden (fun x hx => by omega), rfl⟩
  case round =>
    obtain ⟨v, rfl, hvn, hI, rfl⟩ := hrel
    by_cases hlt : (v : Int) < n
    case neg =>
      go_wp2_with fail
      go_returns
      exact ⟨.inr ⟨rfl, fun x hx => hI.out x (by omega)⟩, rfl⟩
    obtain ⟨x, hx⟩ : ∃ x : Nat, x = y + v := ⟨_, rfl⟩
    have hxn : x < NN := by have := HY1.out; omega
    have x1 : (y : Int) + (v : Int) = x := by omega
    have x2 : IntKind.i64.wrap ((y : Int) + (v : Int)) = (x : Int) := by rw [x1]; simp [IntKind.wrap, IntKind.bits, IntKind.signed]; omega
    have x3 : (x : Int) < NN := by omega
    have x4 : (0 : Int) ≤ (x : Int) := by omega
    have bv0 : (0 : Int) ≤ (v : Int) := by omega
    have ca := ha.out.2.2 x hxn
    have hRx : bAt bs x = true ↔ E u v := by
      rw [hx, HY.out]
      exact hA.out.2 _ _ (by omega) (by omega)
    have cd := hd.out.2.2 v (by omega)
    rw [iAt_dAt ds v (by have := hd.out.1; omega)] at cd
    obtain ⟨t, ht⟩ : ∃ b, b = bAt bs x := ⟨_, rfl⟩
    obtain ⟨dv, hdv⟩ : ∃ b, b = dAt ds v := ⟨_, rfl⟩
    rw [← ht] at ca hRx
    rw [← hdv] at cd
    have HR := hidden hRx
    have HDV := hidden hdv
    clear hRx ht hdv hx hxn x1
    have hnot : Hid (¬ (E u v ∧ dv = level) → ∀ x, x < v + 1 → ¬ (E u x ∧ dAt ds x = level)) := hidden fun h z hz => by
      by_cases e : z = v
      · subst e; rw [← HDV.out]; exact h
      · exact hI.out z (by omega)
    cases t with
    | false =>
      go_wp2_with fail
      go_roundw
      case rel => exact ⟨v + 1, by go_num, by omega, hidden (hnot.out fun h => by have := HR.out.2 h.1; cases this), trivial⟩
      case measure => simp [intOf]; omega
    | true =>
      by_cases h0 : dv = level
      · have t0 : (dv == level) = true := by rw [beq_iff_eq]; exact h0
        have H0 := hidden h0
        clear h0
        go_wp2_with fail
        go_returns
        exact ⟨.inl ⟨v, rfl, by omega, HR.out.1 trivial, by rw [← HDV.out]; exact H0.out, hI.out⟩, rfl⟩
      · have t0 : (dv == level) = false := by rw [beq_eq_false_iff_ne]; exact h0
        have H0 := hidden h0
        clear h0
        go_wp2_with fail
        go_roundw
        case rel => exact ⟨v + 1, by go_num, by omega, hidden (hnot.out fun h => H0.out h.2), trivial⟩
        case measure => simp [intOf]; omega

end Go.Proofs.Qxb6612201a
