/-
  THE WALK OVER zzAppendRune.
-/
import Derived.Test.Qxb6609533aFmtHex
namespace Go.Proofs.Qxb6609533aFmt
open Go.RowKit Go.Extern Plain

theorem wraps_u32 (n : Int) (h₀ : 0 ≤ n) (h₁ : n < 2 ^ 32) : IntKind.u32.wrap n = n := by rw [IntKind.wrap_u32]; omega
theorem and63 (x : Int) (h₀ : 0 ≤ x) (h₁ : x < 4294967296) : bits .and .u32 x 63 = x % 64 := bits_mask .u32 32 (by decide) wraps_u32 6 (by decide) x h₀ h₁
theorem or128 (y : Int) (h₀ : 0 ≤ y) (h₁ : y < 64) : bits .or .u32 128 y = 128 + y := bits_join .u32 32 (by decide) wraps_u32 6 128 y (by decide) (by decide) (by decide) h₀ h₁ (by omega)
theorem or192 (y : Int) (h₀ : 0 ≤ y) (h₁ : y < 32) : bits .or .u32 192 y = 192 + y := bits_join .u32 32 (by decide) wraps_u32 5 192 y (by decide) (by decide) (by decide) h₀ h₁ (by omega)
theorem or224 (y : Int) (h₀ : 0 ≤ y) (h₁ : y < 16) : bits .or .u32 224 y = 224 + y := bits_join .u32 32 (by decide) wraps_u32 4 224 y (by decide) (by decide) (by decide) h₀ h₁ (by omega)
theorem or240 (y : Int) (h₀ : 0 ≤ y) (h₁ : y < 8) : bits .or .u32 240 y = 240 + y := bits_join .u32 32 (by decide) wraps_u32 3 240 y (by decide) (by decide) (by decide) h₀ h₁ (by omega)

theorem vals1 (r : Int) (h0 : 0 ≤ r) (h1 : r < 128) : B8 (enc r.toNat) = [.int .u8 r] := by
  rw [enc_one _ (by omega)]
  simp [B8]
  omega
theorem vals2 (r : Int) (h1 : 128 ≤ r) (h2 : r < 2048) :
    B8 (enc r.toNat) = [.int .u8 (bits .or .u32 192 (r / 64) % 256), .int .u8 (bits .or .u32 128 (bits .and .u32 r 63) % 256)] := by
  rw [enc_two _ (by omega) (by omega), or192 _ (by omega) (by omega), and63 _ (by omega) (by omega), or128 _ (by omega) (by omega)]
  simp only [B8, List.map_cons, List.map_nil, UInt8.toNat_ofNat', List.cons.injEq, Value.int.injEq, and_true, true_and]
  omega
theorem vals3 (r : Int) (h1 : 2048 ≤ r) (h2 : r < 65536) :
    B8 (enc r.toNat) = [.int .u8 (bits .or .u32 224 (r / 4096) % 256), .int .u8 (bits .or .u32 128 (bits .and .u32 (r / 64) 63) % 256), .int .u8 (bits .or .u32 128 (bits .and .u32 r 63) % 256)] := by
  rw [enc_three _ (by omega) (by omega), or224 _ (by omega) (by omega), and63 _ (by omega) (by omega), or128 _ (by omega) (by omega), and63 _ (by omega) (by omega), or128 _ (by omega) (by omega)]
  simp only [B8, List.map_cons, List.map_nil, UInt8.toNat_ofNat', List.cons.injEq, Value.int.injEq, and_true, true_and]
  omega
theorem vals4 (r : Int) (h1 : 65536 ≤ r) (h2 : r ≤ 1114111) :
    B8 (enc r.toNat) = [.int .u8 (bits .or .u32 240 (r / 262144) % 256), .int .u8 (bits .or .u32 128 (bits .and .u32 (r / 4096) 63) % 256), .int .u8 (bits .or .u32 128 (bits .and .u32 (r / 64) 63) % 256), .int .u8 (bits .or .u32 128 (bits .and .u32 r 63) % 256)] := by
  rw [enc_four _ (by omega), or240 _ (by omega) (by omega), and63 _ (by omega) (by omega), or128 _ (by omega) (by omega), and63 _ (by omega) (by omega), or128 _ (by omega) (by omega), and63 _ (by omega) (by omega), or128 _ (by omega) (by omega)]
  simp only [B8, List.map_cons, List.map_nil, UInt8.toNat_ofNat', List.cons.injEq, Value.int.injEq, and_true, true_and]
  omega

theorem cells_new (w : World) (cs : List Value) (t : TypeId) : ∀ j u, cs[j]? = some u → (w.alloc (.cells cs.toArray t)).cell? ((⟨w.heap.size, 0, none⟩ : Addr).add j) = some u := by
  intro j u hj
  have hh : (w.alloc (.cells cs.toArray t)).heap[w.heap.size]? = some (.cells cs.toArray t (0, 0)) := heap_alloc_new w _
  rw [Addr.add_lit, Nat.zero_add]
  unfold World.cell?
  dsimp only
  rw [hh]
  simpa using hj

theorem vals_new (w : World) (cs : List Value) (news : List UInt8) (t : TypeId) (h : B8 news = cs) : ∀ j u, (B8 news)[j]? = some u → (w.alloc (.cells cs.toArray t)).cell? ((⟨w.heap.size, 0, none⟩ : Addr).add j) = some u := by
  rw [h]
  exact cells_new w cs t

theorem vals_len {news : List UInt8} {cs : List Value} (h : B8 news = cs) : news.length = cs.length := by rw [← h, B8_length]

/-- The end of each way: one append of the rune's bytes. -/
def RuneEnds (base : Nat) (l : List UInt8) (N : List UInt8) (w : World) (e : Ending) (w' : World) : Prop := ∃ v', e = .returned v' ∧ Buf base w' v' (l ++ N) ∧ Below base w w'

set_option maxHeartbeats 400000 in
theorem rune1 (base : Nat) (v : Value) (l N : List UInt8) (r : Int) (w : World) (hb : Buf base w v l) (hbase : base ≤ w.heap.size) (hl : l.length ≤ 1000000) (h1 : 0 ≤ r) (h2 : r < 128) (HN : Hid (B8 N = [.int .u8 r])) :
    Calls Tryf.prog 11 #[v, .int .u32 r] w (RuneEnds base l N w) := by
  go_enter Tryf.func11, Tryf.ntmps11
  go_wp2_with (at_builtin; refine buf_append _ rfl _ _ rfl base _ l rfl (hb.alloc _) ⟨w.heap.size, 0, none⟩ 1 1 N rfl (vals_len HN.out) (vals_new w _ N 5 HN.out) (by omega) (by simp; omega) ?_; intro v' w' hb' hw')
  go_ret
  exact ⟨v', rfl, hb', ((Below.refl base w).alloc hbase _).trans hw'⟩

set_option maxHeartbeats 400000 in
theorem rune2 (base : Nat) (v : Value) (l N : List UInt8) (r : Int) (w : World) (hb : Buf base w v l) (hbase : base ≤ w.heap.size) (hl : l.length ≤ 1000000) (h1 : 128 ≤ r) (h2 : r < 2048)
    (HN : Hid (B8 N = [.int .u8 (bits .or .u32 192 (r / 64) % 256), .int .u8 (bits .or .u32 128 (bits .and .u32 r 63) % 256)])) :
    Calls Tryf.prog 11 #[v, .int .u32 r] w (RuneEnds base l N w) := by
  go_enter Tryf.func11, Tryf.ntmps11
  go_wp2_with (at_builtin; refine buf_append _ rfl _ _ rfl base _ l rfl (hb.alloc _) ⟨w.heap.size, 0, none⟩ 2 2 N rfl (vals_len HN.out) (vals_new w _ N 5 HN.out) (by omega) (by simp; omega) ?_; intro v' w' hb' hw')
  go_ret
  exact ⟨v', rfl, hb', ((Below.refl base w).alloc hbase _).trans hw'⟩

set_option maxHeartbeats 400000 in
theorem rune3 (base : Nat) (v : Value) (l N : List UInt8) (r : Int) (w : World) (hb : Buf base w v l) (hbase : base ≤ w.heap.size) (hl : l.length ≤ 1000000) (h1 : 2048 ≤ r) (h2 : r < 65536)
    (HN : Hid (B8 N = [.int .u8 (bits .or .u32 224 (r / 4096) % 256), .int .u8 (bits .or .u32 128 (bits .and .u32 (r / 64) 63) % 256), .int .u8 (bits .or .u32 128 (bits .and .u32 r 63) % 256)])) :
    Calls Tryf.prog 11 #[v, .int .u32 r] w (RuneEnds base l N w) := by
  go_enter Tryf.func11, Tryf.ntmps11
  go_wp2_with (at_builtin; refine buf_append _ rfl _ _ rfl base _ l rfl (hb.alloc _) ⟨w.heap.size, 0, none⟩ 3 3 N rfl (vals_len HN.out) (vals_new w _ N 5 HN.out) (by omega) (by simp; omega) ?_; intro v' w' hb' hw')
  go_ret
  exact ⟨v', rfl, hb', ((Below.refl base w).alloc hbase _).trans hw'⟩

set_option maxHeartbeats 400000 in
theorem rune4 (base : Nat) (v : Value) (l N : List UInt8) (r : Int) (w : World) (hb : Buf base w v l) (hbase : base ≤ w.heap.size) (hl : l.length ≤ 1000000) (h1 : 65536 ≤ r) (h2 : r ≤ 1114111)
    (HN : Hid (B8 N = [.int .u8 (bits .or .u32 240 (r / 262144) % 256), .int .u8 (bits .or .u32 128 (bits .and .u32 (r / 4096) 63) % 256), .int .u8 (bits .or .u32 128 (bits .and .u32 (r / 64) 63) % 256), .int .u8 (bits .or .u32 128 (bits .and .u32 r 63) % 256)])) :
    Calls Tryf.prog 11 #[v, .int .u32 r] w (RuneEnds base l N w) := by
  go_enter Tryf.func11, Tryf.ntmps11
  go_wp2_with (at_builtin; refine buf_append _ rfl _ _ rfl base _ l rfl (hb.alloc _) ⟨w.heap.size, 0, none⟩ 4 4 N rfl (vals_len HN.out) (vals_new w _ N 5 HN.out) (by omega) (by simp; omega) ?_; intro v' w' hb' hw')
  go_ret
  exact ⟨v', rfl, hb', ((Below.refl base w).alloc hbase _).trans hw'⟩

theorem rune_any (base : Nat) (v : Value) (l : List UInt8) (r : Nat) (w : World) (hb : Buf base w v l) (hbase : base ≤ w.heap.size) (hl : l.length ≤ 1000000) (h2 : r ≤ 1114111) :
    Calls Tryf.prog 11 #[v, .int .u32 r] w (RuneEnds base l (enc r) w) := by
  have e : ((r : Nat) : Int).toNat = r := Int.toNat_natCast r
  by_cases c1 : r < 128
  · exact rune1 base v l _ r w hb hbase hl (by omega) (by omega) (by have := vals1 r (by omega) (by omega); rw [e] at this; exact this)
  by_cases c2 : r < 2048
  · exact rune2 base v l _ r w hb hbase hl (by omega) (by omega) (by have := vals2 r (by omega) (by omega); rw [e] at this; exact this)
  by_cases c3 : r < 65536
  · exact rune3 base v l _ r w hb hbase hl (by omega) (by omega) (by have := vals3 r (by omega) (by omega); rw [e] at this; exact this)
  · exact rune4 base v l _ r w hb hbase hl (by omega) (by omega) (by have := vals4 r (by omega) (by omega); rw [e] at this; exact this)

end Go.Proofs.Qxb6609533aFmt
