/-
  THE WALKS OVER zzBytes and reBytes: how long the arguments are.
-/
import Derived.Test.Qxb6612277aFmtProg
import Derived.WalkKit
import Derived.WalkSpells
namespace Go.Proofs.Qxb6612277aFmt
open Go.RowKit
set_option linter.unusedVariables false
namespace Bytes
theorem hidden {p : Prop} (h : p) : Hid p := h

/-- A slice of strings that came in: nil, or a row of cells. -/
def Strs (w : World) (a : Option Addr) (len : Nat) (ss : List ByteArray) : Prop :=
  ss.length = len ∧ (0 < len → ∃ b off, a = some ⟨b, off, none⟩ ∧ b < w.heap.size ∧ ∀ j s, ss[j]? = some s → w.cell? ⟨b, off + j, none⟩ = some (.string s))

theorem Strs.at {w : World} {a : Option Addr} {len : Nat} {ss : List ByteArray} (h : Strs w a len ss) {k : Nat} (hk : k < len) :
    ∃ b off s, a = some ⟨b, off, none⟩ ∧ b < w.heap.size ∧ ss[k]? = some s ∧ w.cell? ⟨b, off + k, none⟩ = some (.string s) := by
  obtain ⟨hl, hc⟩ := h
  obtain ⟨b, off, rfl, hb, hcs⟩ := hc (by omega)
  have hx : k < ss.length := by omega
  exact ⟨b, off, ss[k], rfl, hb, List.getElem?_eq_getElem hx, hcs k _ (List.getElem?_eq_getElem hx)⟩

/-- The first k strings take at most 2^20 bytes each. -/
def Small (ss : List ByteArray) (k : Nat) : Prop := ∀ j s, j < k → ss[j]? = some s → s.size ≤ 1048576

theorem Small.succ {ss : List ByteArray} {k : Nat} {s : ByteArray} (h : Small ss k) (hs : ss[k]? = some s) (hz : s.size ≤ 1048576) : Small ss (k + 1) := by
  intro j x hj hx
  by_cases e : j = k
  · subst e
    rw [hs] at hx
    cases hx
    exact hz
  · exact h j x (by omega) hx

/-- How zzBytes ends: with a Bool; if it is true, no string is long. -/
def ZZEnds (fs ms : List ByteArray) (lf lm : Nat) (w : World) (e : Ending) (w' : World) : Prop := ∃ b : Bool, e = .returned (.bool b) ∧ (b = true → Small fs lf ∧ Small ms lm) ∧ w = w'

set_option maxRecDepth 100000 in
set_option maxHeartbeats 3200000 in
theorem zz_any (al af am : Option Addr) (ll cl lf cf lm cm : Nat) (fs ms : List ByteArray) (x : Int) (ef em : ByteArray) (w : World) (HF : Hid (Strs w af lf fs)) (HM : Hid (Strs w am lm ms))
    (hl : (ll : Int) ≤ 9223372036854775807) (hf : (lf : Int) ≤ 9223372036854775807) (hm : (lm : Int) ≤ 9223372036854775807) :
    Calls Tryf.prog 5 #[.slice al ll cl, .slice af lf cf, .slice am lm cm, .int .i64 x, .string ef, .string em] w (ZZEnds fs ms lf lm w) := by
  by_cases h1n : (1048576 : Int) < (ll : Int)
  · go_enter Tryf.func5, Tryf.ntmps5
    go_wp2
    go_ret
    exact ⟨false, rfl, (fun h => by cases h), rfl⟩
  have h1 : (ll : Int) ≤ 1048576 := by omega
  clear h1n
  by_cases h2n : (1048576 : Int) < (lf : Int)
  · go_enter Tryf.func5, Tryf.ntmps5
    go_wp2
    go_ret
    exact ⟨false, rfl, (fun h => by cases h), rfl⟩
  have h2 : (lf : Int) ≤ 1048576 := by omega
  clear h2n
  by_cases h2bn : (1048576 : Int) < (ll : Int) + (lf : Int)
  · go_enter Tryf.func5, Tryf.ntmps5
    go_wp2
    go_ret
    exact ⟨false, rfl, (fun h => by cases h), rfl⟩
  have h2b : (ll : Int) + (lf : Int) ≤ 1048576 := by omega
  clear h2bn
  go_enter Tryf.func5, Tryf.ntmps5
  go_wp2
  go_loop [13, 14] (fun z i => ∃ (k : Nat) (q : Int), k ≤ lf ∧ i = .int .i64 k ∧ z = .int .i64 q ∧ 0 ≤ q ∧ q ≤ 1048576 ∧ Small fs k) (fun _ i => lf - (intOf i).toNat)
  case atStart => exact ⟨0, _, Nat.zero_le _, rfl, rfl, by omega, by omega, fun j s h => by omega⟩
  case round =>
    obtain ⟨k, q, hk, rfl, rfl, q0, q1, hsm⟩ := hrel
    have HS := hidden hsm
    clear hsm
    by_cases hlt : k < lf
    · obtain ⟨b, off, s, rfl, hb, hs, hc⟩ := HF.out.at hlt
      have HSS := hidden hs
      clear hs
      by_cases hzn : (1048576 : Int) < (s.size : Int)
      · go_wp2
        go_ret
        exact ⟨false, rfl, (fun h => by cases h), rfl⟩
      have hz : (s.size : Int) ≤ 1048576 := by omega
      clear hzn
      by_cases hz2n : (1048576 : Int) < q + (s.size : Int)
      · go_wp2
        go_ret
        exact ⟨false, rfl, (fun h => by cases h), rfl⟩
      have hz2 : q + (s.size : Int) ≤ 1048576 := by omega
      clear hz2n
      go_wp2
      go_round
      case rel => exact ⟨k + 1, q + (s.size : Int), by omega, by go_num, rfl, by omega, hz2, HS.out.succ HSS.out (by omega)⟩
      case measure => simp [intOf]; omega
    · obtain rfl : k = lf := by omega
      by_cases h3n : (1048576 : Int) < (lm : Int)
      · go_wp2
        go_ret
        exact ⟨false, rfl, (fun h => by cases h), rfl⟩
      have h3 : (lm : Int) ≤ 1048576 := by omega
      by_cases h4n : (1048576 : Int) < q + (lm : Int)
      · go_wp2
        go_ret
        exact ⟨false, rfl, (fun h => by cases h), rfl⟩
      have h4 : q + (lm : Int) ≤ 1048576 := by omega
      clear h3n h4n
      go_wp2
      go_loop [13, 15] (fun z i => ∃ (j : Nat) (r : Int), j ≤ lm ∧ i = .int .i64 j ∧ z = .int .i64 r ∧ 0 ≤ r ∧ r ≤ 1048576 ∧ Small ms j) (fun _ i => lm - (intOf i).toNat)
      case atStart => exact ⟨0, _, Nat.zero_le _, rfl, rfl, by omega, by omega, fun j s h => by omega⟩
      case round =>
        obtain ⟨j, r, hj, rfl, rfl, r0, r1, hsm⟩ := hrel
        have HS2 := hidden hsm
        clear hsm
        by_cases hlt2 : j < lm
        · obtain ⟨b, off, s, rfl, hb, hs, hc⟩ := HM.out.at hlt2
          have HSS := hidden hs
          clear hs
          by_cases hzn : (1048576 : Int) < (s.size : Int)
          · go_wp2
            go_ret
            exact ⟨false, rfl, (fun h => by cases h), rfl⟩
          have hz : (s.size : Int) ≤ 1048576 := by omega
          clear hzn
          by_cases hz2n : (1048576 : Int) < r + (s.size : Int)
          · go_wp2
            go_ret
            exact ⟨false, rfl, (fun h => by cases h), rfl⟩
          have hz2 : r + (s.size : Int) ≤ 1048576 := by omega
          clear hz2n
          go_wp2
          go_round
          case rel => exact ⟨j + 1, r + (s.size : Int), by omega, by go_num, rfl, by omega, hz2, HS2.out.succ HSS.out (by omega)⟩
          case measure => simp [intOf]; omega
        · obtain rfl : j = lm := by omega
          go_wp2
          all_goals
            go_ret
            first
              | exact ⟨false, rfl, (fun h => by cases h), rfl⟩
              | exact ⟨true, rfl, fun _ => ⟨HS.out, HS2.out⟩, rfl⟩

/-- How reBytes ends: with a number that is not large. -/
def ReEnds (w : World) (e : Ending) (w' : World) : Prop := ∃ T : Int, e = .returned (.int .i64 T) ∧ 0 ≤ T ∧ T ≤ 1000000000 ∧ w = w'

set_option maxRecDepth 100000 in
set_option maxHeartbeats 3200000 in
theorem re_any (af am : Option Addr) (lf cf lm cm : Nat) (fs ms : List ByteArray) (w : World) (HF : Hid (Strs w af lf fs)) (HM : Hid (Strs w am lm ms)) (HSF : Hid (Small fs lf)) (HSM : Hid (Small ms lm))
    (hf : (lf : Int) ≤ 65536) (hm : (lm : Int) ≤ 65536) :
    Calls Tryf.prog 6 #[.slice af lf cf, .slice am lm cm] w (ReEnds w) := by
  go_enter Tryf.func6, Tryf.ntmps6
  go_wp2
  go_loop [5, 6] (fun z i => ∃ (k : Nat) (q : Int), k ≤ lf ∧ i = .int .i64 k ∧ z = .int .i64 q ∧ 0 ≤ q ∧ q ≤ 2097152) (fun _ i => lf - (intOf i).toNat)
  case atStart => exact ⟨0, _, Nat.zero_le _, rfl, rfl, by omega, by omega⟩
  case round =>
    obtain ⟨k, q, hk, rfl, rfl, q0, q1⟩ := hrel
    by_cases hlt : k < lf
    · obtain ⟨b, off, s, rfl, hb, hs, hc⟩ := HF.out.at hlt
      have hz : (s.size : Int) ≤ 1048576 := by have := HSF.out k s hlt hs; omega
      clear hs
      by_cases hz2 : (1048576 : Int) < q + (s.size : Int)
      · go_wp2
        go_ret
        exact ⟨_, rfl, by omega, by omega, rfl⟩
      · go_wp2
        go_round
        case rel => exact ⟨k + 1, q + (s.size : Int), by omega, by go_num, rfl, by omega, by omega⟩
        case measure => simp [intOf]; omega
    · obtain rfl : k = lf := by omega
      go_wp2
      go_loop [5, 7] (fun z i => ∃ (j : Nat) (r : Int), j ≤ lm ∧ i = .int .i64 j ∧ z = .int .i64 r ∧ 0 ≤ r ∧ r ≤ 2097152) (fun _ i => lm - (intOf i).toNat)
      case atStart => exact ⟨0, _, Nat.zero_le _, rfl, rfl, by omega, by omega⟩
      case round =>
        obtain ⟨j, r, hj, rfl, rfl, r0, r1⟩ := hrel
        by_cases hlt2 : j < lm
        · obtain ⟨b, off, s, rfl, hb, hs, hc⟩ := HM.out.at hlt2
          have hz : (s.size : Int) ≤ 1048576 := by have := HSM.out j s hlt2 hs; omega
          clear hs
          by_cases hz2 : (1048576 : Int) < r + (s.size : Int)
          · go_wp2
            go_ret
            exact ⟨_, rfl, by omega, by omega, rfl⟩
          · go_wp2
            go_round
            case rel => exact ⟨j + 1, r + (s.size : Int), by omega, by go_num, rfl, by omega, by omega⟩
            case measure => simp [intOf]; omega
        · go_wp2
          go_ret
          exact ⟨_, rfl, by omega, by omega, rfl⟩

end Bytes
end Go.Proofs.Qxb6612277aFmt
