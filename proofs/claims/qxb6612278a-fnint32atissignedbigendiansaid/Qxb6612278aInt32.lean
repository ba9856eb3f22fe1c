/-
  THE WALKS OVER ZZint32At, int32At, (bigEndian).Uint32 and the two length tests.
-/
import Derived.Test.Qxb6612278aProg
import Derived.WalkKit
import Derived.WalkSpells
import Derived.Deep.QuietTactic
import Derived.BigQuiet
import Derived.WalkSmall
import Derived.Lib.EndianBits
namespace Go.Proofs.Qxb6612278a
open Go.RowKit

theorem hidden {p : Prop} (h : p) : Hid p := h

theorem or_all (c0 c1 c2 c3 : Int) (b00 : 0 ≤ c0) (b01 : c0 ≤ 255) (b10 : 0 ≤ c1) (b11 : c1 ≤ 255) (b20 : 0 ≤ c2) (b21 : c2 ≤ 255) (b30 : 0 ≤ c3) (b31 : c3 ≤ 255) :
    bits BinOp.or IntKind.u32 (bits BinOp.or IntKind.u32 (bits BinOp.or IntKind.u32 c3 (c2 * 256)) (c1 * 65536)) (c0 * 16777216) = c0 * 16777216 + c1 * 65536 + c2 * 256 + c3 := by
  rw [u32_or8 _ _ b30 (by omega) (by omega) (by omega) (by omega), u32_or16 (c3 + c2 * 256) (c1 * 65536) (by omega) (by omega) (by omega) (by omega) (by omega), u32_or24 (c3 + c2 * 256 + c1 * 65536) (c0 * 16777216) (by omega) (by omega) (by omega) (by omega) (by omega)]
  omega

set_option maxHeartbeats 800000 in
theorem uint32_any (g off len cap : Nat) (c0 c1 c2 c3 : Int) (w : World) (hg : g < w.heap.size) (hlen : (4 : Int) ≤ len)
    (h0 : w.cell? ⟨g, off, none⟩ = some (.int .u8 c0)) (h1 : w.cell? ⟨g, off + 1, none⟩ = some (.int .u8 c1)) (h2 : w.cell? ⟨g, off + 2, none⟩ = some (.int .u8 c2)) (h3 : w.cell? ⟨g, off + 3, none⟩ = some (.int .u8 c3))
    (b00 : 0 ≤ c0) (b01 : c0 ≤ 255) (b10 : 0 ≤ c1) (b11 : c1 ≤ 255) (b20 : 0 ≤ c2) (b21 : c2 ≤ 255) (b30 : 0 ≤ c3) (b31 : c3 ≤ 255) :
    Calls Try.prog 13 #[.agg #[], .slice (some ⟨g, off, none⟩) len cap] w fun e w' => e = .returned (.int .u32 (c0 * 16777216 + c1 * 65536 + c2 * 256 + c3)) ∧ Below w.heap.size w w' := by
  go_enter Try.func13, Try.ntmps13
  go_wp2
  go_quiet (fail)
  go_wp2
  go_ret
  refine ⟨?_, below_drewN ((Below.refl _ w).alloc (Nat.le_refl _) _) nq⟩
  exact congrArg (fun x => Ending.returned (Value.int .u32 x)) (or_all c0 c1 c2 c3 b00 b01 b10 b11 b20 b21 b30 b31)

set_option maxHeartbeats 400000 in
theorem int32At_any (g off len cap : Nat) (c0 c1 c2 c3 : Int) (w : World) (hg : g < w.heap.size) (hlen : (4 : Int) ≤ len)
    (h0 : w.cell? ⟨g, off, none⟩ = some (.int .u8 c0)) (h1 : w.cell? ⟨g, off + 1, none⟩ = some (.int .u8 c1)) (h2 : w.cell? ⟨g, off + 2, none⟩ = some (.int .u8 c2)) (h3 : w.cell? ⟨g, off + 3, none⟩ = some (.int .u8 c3))
    (b00 : 0 ≤ c0) (b01 : c0 ≤ 255) (b10 : 0 ≤ c1) (b11 : c1 ≤ 255) (b20 : 0 ≤ c2) (b21 : c2 ≤ 255) (b30 : 0 ≤ c3) (b31 : c3 ≤ 255) :
    Calls Try.prog 9 #[.slice (some ⟨g, off, none⟩) len cap] w fun e w' => e = .returned (.int .i32 (wrap32 (c0 * 16777216 + c1 * 65536 + c2 * 256 + c3))) ∧ Below w.heap.size w w' := by
  go_enter Try.func9, Try.ntmps9
  go_wp2_with (first | (go_at_call 13; refine (uint32_any g off len cap c0 c1 c2 c3 _ hg hlen h0 h1 h2 h3 b00 b01 b10 b11 b20 b21 b30 b31).mono ?_; rintro e w' ⟨rfl, hw⟩) | go_in)
  go_ret
  exact ⟨rfl, hw⟩

theorem bytes8_any (a : Option Addr) (len cap : Nat) (w : World) (hl : len ≤ maxLen) :
    Calls Try.prog 8 #[.slice a len cap] w fun e w' => e = .returned (.bool (decide (len ≤ 1048576))) ∧ w = w' := by
  unfold maxLen at hl
  by_cases h : len ≤ 1048576
  · go_enter Try.func8, Try.ntmps8
    go_wp2
    go_ret
    exact ⟨by simp [h], rfl⟩
  · go_enter Try.func8, Try.ntmps8
    go_wp2
    go_ret
    exact ⟨by simp [h], rfl⟩

theorem bytes10_any (x : Int) (a : Option Addr) (len cap : Nat) (w : World) (hl : len ≤ maxLen) :
    Calls Try.prog 10 #[.int .i32 x, .slice a len cap] w fun e w' => e = .returned (.bool (decide (len ≤ 1048576))) ∧ w = w' := by
  unfold maxLen at hl
  by_cases h : len ≤ 1048576
  · go_enter Try.func10, Try.ntmps10
    go_wp2
    go_ret
    exact ⟨by simp [h], rfl⟩
  · go_enter Try.func10, Try.ntmps10
    go_wp2
    go_ret
    exact ⟨by simp [h], rfl⟩

end Go.Proofs.Qxb6612278a
