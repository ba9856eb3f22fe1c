/-
  THE WALK OVER FnInt32AtIsSignedBigEndian.
-/
import Derived.Test.Qxb6612278aInt32
import Derived.Test.Qxb6612278aCopy
namespace Go.Proofs.Qxb6612278a
open Go.RowKit

theorem Try.info5 : (Try.prog.info? 5).map (fun i => (i.zero, i.size, i.bytes)) = some (some (.int .u8 0), 1, 1) := by kernel_rfl
theorem Try.size5 : (Try.prog.info? 5).map (·.size) = some 1 := by kernel_rfl

theorem hid' {p : Prop} (h : p) : Hid p := h

theorem ints_one (k : IntKind) (zs : List Int) : ∀ v ∈ zs.map (Value.int k), v.oneCell' = true := by
  intro v hv
  obtain ⟨z, _, rfl⟩ := List.mem_map.1 hv
  rfl

theorem fin_lo (S : Int) (h0 : 0 ≤ S) (h1 : S < 2147483648) : (wrap64 (wrap32 S) == S) = true := by
  rw [beq_iff_eq]
  unfold wrap64 wrap32
  omega
theorem fin_hi (S : Int) (h0 : 2147483648 ≤ S) (h1 : S < 4294967296) : (wrap64 (wrap32 S) == S - 4294967296) = true := by
  rw [beq_iff_eq]
  unfold wrap64 wrap32
  omega

theorem cells4 {w : World} {base e g n cap : Nat} {c0 c1 c2 c3 : Value} {xs : List Value} (h : w.ownsRow base e 1 (.slice (some ⟨g, 0, none⟩) n cap) n (c0 :: c1 :: c2 :: c3 :: xs)) (h4 : 4 ≤ n) :
    w.cell? ⟨g, 0, none⟩ = some c0 ∧ w.cell? ⟨g, 0 + 1, none⟩ = some c1 ∧ w.cell? ⟨g, 0 + 2, none⟩ = some c2 ∧ w.cell? ⟨g, 0 + 3, none⟩ = some c3 := by
  refine ⟨?_, ?_, ?_, ?_⟩
  · rw [h.cellAt 0 (by omega)]; rfl
  · rw [h.cellAt 1 (by omega)]; rfl
  · rw [h.cellAt 2 (by omega)]; rfl
  · rw [h.cellAt 3 (by omega)]; rfl

set_option maxRecDepth 100000 in
set_option maxHeartbeats 1600000 in
theorem signed_rest (x : Addr) (len cap : Nat) (z0 z1 z2 z3 : Int) (zr : List Int) (w : World) (hl4 : (4 : Int) ≤ len) (hl20 : len ≤ 1048576) (HZL : Hid ((z0 :: z1 :: z2 :: z3 :: zr).length = len))
    (HC : Hid (∀ j v, ((z0 :: z1 :: z2 :: z3 :: zr).map (Value.int .u8))[j]? = some v → w.cell? (x.add j) = some v))
    (b00 : 0 ≤ z0) (b01 : z0 ≤ 255) (b10 : 0 ≤ z1) (b11 : z1 ≤ 255) (b20 : 0 ≤ z2) (b21 : z2 ≤ 255) (b30 : 0 ≤ z3) (b31 : z3 ≤ 255) :
    Calls Try.prog 4 #[.slice (some x) len cap] w fun e w' => e = .returned (.bool true) ∧ Below w.heap.size w w' := by
  have h20 : decide (len ≤ 1048576) = true := by simp; omega
  have hneq := fun w => run_neq_slice_nil_any (P := Try.prog) w 26 5 (some x) len cap 0 0 Try.underlying26
  obtain ⟨i0, hi, hz0, hz1, hz2⟩ := info_parts Try.info5
  go_enter Try.func4, Try.ntmps4
  go_wp2_with (first
    | (go_at_call 8; refine (bytes8_any _ _ _ _ (by unfold maxLen; omega)).mono ?_; rintro e w' ⟨rfl, rfl⟩)
    | (at_make; refine wpList_make_full _ rfl _ _ 26 rfl w.heap.size 5 i0 (.int .u8 0) 1 Try.underlying26 hi hz0 hz1 .i64 .i64 _ _ len rfl rfl rfl rfl (by rw [hz2]; omega) (by unfold maxLen; omega) (Nat.le_refl _) ?_; intro w1 hown1 hgrow1))
  obtain ⟨w2, hrun, hown2, hgrow2⟩ := run_copy_full (P := Try.prog) w1 26 3 5 Try.underlying26 Try.size5 w.heap.size len w.heap.size len _ hown1 (some x) len cap ((z0 :: z1 :: z2 :: z3 :: zr).map (Value.int .u8)) (by rw [List.length_map]; exact HZL.out) (Nat.le_refl _) (fun _ => ⟨x, rfl, fun j v hj => hgrow1.cell (HC.out j v hj) (by simp)⟩) (ints_one _ _)
  rw [hrun]
  have hlt := (hown2.lt w.heap.size rfl).2
  have hbel : Below w.heap.size w w2 := ((Below.refl _ w).grown hgrow1 (Nat.le_refl _) (fun k hk => by cases hk)).grown hgrow2 (by have := hgrow1.size; omega) (fun k hk => by cases hk; exact Nat.le_refl _)
  obtain ⟨d0, d1, d2, d3⟩ := cells4 hown2 (by omega)
  have HB := hid' hbel
  clear hrun hown1 hown2 hgrow1 hgrow2 hneq hbel
  go_wp2
  go_quiet (fail)
  have hS0 : 0 ≤ z0 * 16777216 + z1 * 65536 + z2 * 256 + z3 := by omega
  have hS1 : z0 * 16777216 + z1 * 65536 + z2 * 256 + z3 < 4294967296 := by omega
  by_cases hS : 2147483648 ≤ z0 * 16777216 + z1 * 65536 + z2 * 256 + z3
  all_goals
    go_wp2_with (go_at_call 9; refine (int32At_any w.heap.size 0 len len z0 z1 z2 z3 _ (by simpa using hlt) hl4 (by simpa using d0) (by simpa using d1) (by simpa using d2) (by simpa using d3) b00 b01 b10 b11 b20 b21 b30 b31).mono ?_; rintro e w' ⟨rfl, hw⟩)
    go_ret
    have hz := HB.out.size
  · exact ⟨congrArg (fun b => Ending.returned (Value.bool b)) (fin_hi _ hS hS1), (below_drewN HB.out nq).trans (hw.mono (by exact hz))⟩
  · exact ⟨congrArg (fun b => Ending.returned (Value.bool b)) (fin_lo _ hS0 (by omega)), (below_drewN HB.out nq).trans (hw.mono (by exact hz))⟩

set_option maxHeartbeats 400000 in
theorem signed_short (a : Option Addr) (len cap : Nat) (w : World) (h : (len : Int) < 4) :
    Calls Try.prog 4 #[.slice a len cap] w fun e w' => e = .returned (.bool true) ∧ Below w.heap.size w w' := by
  have h20 : decide (len ≤ 1048576) = true := by simp; omega
  go_enter Try.func4, Try.ntmps4
  go_wp2_with (go_at_call 8; refine (bytes8_any _ _ _ _ (by unfold maxLen; omega)).mono ?_; rintro e w' ⟨rfl, rfl⟩)
  go_ret
  exact ⟨rfl, Below.refl _ _⟩

set_option maxHeartbeats 400000 in
theorem signed_long (a : Option Addr) (len cap : Nat) (w : World) (h : (1048576 : Int) < len) (hm : len ≤ maxLen) :
    Calls Try.prog 4 #[.slice a len cap] w fun e w' => e = .returned (.bool true) ∧ Below w.heap.size w w' := by
  have h20 : decide (len ≤ 1048576) = false := by simp; omega
  go_enter Try.func4, Try.ntmps4
  go_wp2_with (go_at_call 8; refine (bytes8_any _ _ _ _ hm).mono ?_; rintro e w' ⟨rfl, rfl⟩)
  go_ret
  exact ⟨rfl, Below.refl _ _⟩

end Go.Proofs.Qxb6612278a
