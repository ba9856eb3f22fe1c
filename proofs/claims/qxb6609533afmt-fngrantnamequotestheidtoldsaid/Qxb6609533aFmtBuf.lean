/-
  A SLICE OF BYTES THAT THE CALL ITSELF MAKES, as a plain list of bytes: make, append, the conversion to a string.
-/
import Derived.Test.Qxb6609533aFmtProg
import Derived.WalkKit
import Derived.WalkSpells
import Derived.Lib.AppendStr
namespace Go.Proofs.Qxb6609533aFmt
open Go.RowKit

/-- Bytes as cells. -/
def B8 (l : List UInt8) : List Value := l.map fun b => Value.int .u8 b.toNat

theorem B8_length (l : List UInt8) : (B8 l).length = l.length := by simp [B8]
theorem B8_append (a b : List UInt8) : B8 (a ++ b) = B8 a ++ B8 b := by simp [B8]
theorem B8_one (l : List UInt8) : ∀ u ∈ B8 l, u.oneCell' = true := by
  intro u hu
  simp only [B8, List.mem_map] at hu
  obtain ⟨b, _, rfl⟩ := hu
  rfl

/-- The slice value v is the call's own (its block from 'base' on) and holds the bytes l. -/
def Buf (base : Nat) (W : World) (v : Value) (l : List UInt8) : Prop := W.ownsRow base 5 1 v l.length (B8 l)

theorem Buf.alloc {base : Nat} {W : World} {v : Value} {l : List UInt8} (h : Buf base W v l) (o : Obj) : Buf base (W.alloc o) v l := World.ownsRow.alloc h o
theorem Buf.drew {base : Nat} {W : World} {v : Value} {l : List UInt8} (h : Buf base W v l) : Buf base W.drew v l := World.ownsRow.drew h

theorem Tryf.info5 : (Tryf.prog.info? 5).map (fun i => (i.zero, i.size, i.bytes)) = some (some (.int .u8 0), 1, 1) := by kernel_rfl

theorem below_grown {base : Nat} {W w' : World} {v : Value} {l : List UInt8} (h : Buf base W v l) (hg : W.grownBy w' v.ownBlock) (hb : base ≤ W.heap.size) : Below base W w' :=
  (Below.refl base W).grown hg hb (fun k hk => (World.ownsRow.lt h k hk).1)

theorem buf_make (W : World) {ops : Array Oper} {rest : List Oper} {o : Oper} {a : Act} {Q : Exit → Act → World → Prop}
    (hg : o.guard = none) (l c : Operand) (hop : o.op = Op.makeSlice 26 l c) (base : Nat) (C : Int) (n : Nat)
    (hl : a.eval l = .int .i64 0) (hc : a.eval c = .int .i64 C) (hC : C = (n : Int)) (hn : n ≤ 100000000) (hb : base ≤ W.heap.size)
    (hK : ∀ v' w', Buf base w' v' [] → Below base W w' → wpList Tryf.prog ops Q rest (a.put o.dst v') w') :
    wpList Tryf.prog ops Q (o :: rest) a W := by
  obtain ⟨i0, hi, hz0, hz1, hz2⟩ := info_parts Tryf.info5
  refine wpList_make_own W hg l c 26 hop base 5 i0 (.int .u8 0) 1 Tryf.underlying26 hi hz0 hz1 .i64 .i64 C n hl hc hC (by rw [hz2]; omega) (by unfold maxLen; omega) hb ?_
  intro w' hown hgrow
  exact hK _ w' hown ((Below.refl base W).grown hgrow hb (fun k hk => by cases hk))

theorem buf_append (W : World) {ops : Array Oper} {rest : List Oper} {o : Oper} {a : Act} {Q : Exit → Act → World → Prop}
    (hg : o.guard = none) (s x : Operand) (hop : o.op = Op.call { callee := Callee.builtin Builtin.append, args := #[s, x], argTypes := #[26, 26] })
    (base : Nat) (v : Value) (l : List UInt8) (hs : a.eval s = v) (hown : Buf base W v l) (ad : Addr) (m c : Nat) (news : List UInt8) (hx : a.eval x = .slice (some ad) m c) (hm : news.length = m)
    (hnews : ∀ j u, (B8 news)[j]? = some u → W.cell? (ad.add j) = some u) (hlen : l.length + m ≤ 100000000) (hb : base ≤ W.heap.size)
    (hK : ∀ v' w', Buf base w' v' (l ++ news) → Below base W w' → wpList Tryf.prog ops Q rest (a.put o.dst v') w') :
    wpList Tryf.prog ops Q (o :: rest) a W := by
  obtain ⟨i0, hi, hz0, hz1, hz2⟩ := info_parts Tryf.info5
  refine wpList_append_own W hg s x 26 hop base 5 i0 (.int .u8 0) 1 1 Tryf.underlying26 hi hz0 hz1 hz2 rfl (by decide) v l.length (B8 l) hs hown ad m c (B8 news) hx (by rw [B8_length]; omega) hnews (B8_one _) (by unfold maxLen; omega) (by omega) hb ?_
  intro v' w' hown' hgrow _
  refine hK v' w' ?_ (below_grown hown hgrow hb)
  unfold Buf
  rw [B8_append, List.length_append, hm]
  exact hown'

theorem strCells_eq (s : ByteArray) : Lib.strCells s = B8 s.data.toList := rfl

theorem buf_append_str (W : World) {ops : Array Oper} {rest : List Oper} {o : Oper} {a : Act} {Q : Exit → Act → World → Prop}
    (hg : o.guard = none) (s x : Operand) (hop : o.op = Op.call { callee := Callee.builtin Builtin.append, args := #[s, x], argTypes := #[26, 9] })
    (base : Nat) (v : Value) (l : List UInt8) (hs : a.eval s = v) (hown : Buf base W v l) (t : ByteArray) (hx : a.eval x = .string t)
    (hlen : l.length + t.size ≤ 100000000) (hb : base ≤ W.heap.size)
    (hK : ∀ v' w', Buf base w' v' (l ++ t.data.toList) → Below base W w' → wpList Tryf.prog ops Q rest (a.put o.dst v') w') :
    wpList Tryf.prog ops Q (o :: rest) a W := by
  obtain ⟨i0, hi, hz0, hz1, hz2⟩ := info_parts Tryf.info5
  refine Lib.wpList_append_own_string W hg s x 26 9 hop base 5 i0 Tryf.underlying26 Tryf.underlying9 hi hz0 hz1 hz2 v l.length (B8 l) hs hown t hx (by unfold maxLen; omega) (by omega) hb ?_
  intro v' w' hown' hgrow _
  refine hK v' w' ?_ (below_grown hown hgrow hb)
  unfold Buf
  rw [B8_append, List.length_append, show t.data.toList.length = t.size from Array.length_toList]
  exact hown'

theorem foldl_push (l : List UInt8) : ∀ s : ByteArray, (l.map fun b => (b.toNat : Int)).foldl (fun r n => r.push (UInt8.ofNat n.toNat)) s = ⟨(s.data.toList ++ l).toArray⟩ := by
  induction l with
  | nil => intro s; apply ByteArray.ext; simp
  | cons c t ih =>
    intro s
    rw [List.map_cons, List.foldl_cons, ih]
    apply ByteArray.ext
    simp [ByteArray.push]

theorem buf_string {base : Nat} {W : World} {v : Value} {l : List UInt8} (h : Buf base W v l) : (convert 26 9 v).run Tryf.prog W = .ok (.string ⟨l.toArray⟩) W := by
  have h0 := h
  obtain ⟨hl, ⟨rfl, hn⟩ | ⟨g, cap, cur, rfl, hg, hh, hc, hm, hcs, ht⟩⟩ := h
  · have : l = [] := List.length_eq_zero_iff.1 hn
    subst this
    rw [run_convert_bytes_string W 26 9 5 none 0 0 Tryf.underlying26 Tryf.underlying5 Tryf.underlying9]
    rfl
  · rw [run_convert_bytes_string W 26 9 5 _ _ _ Tryf.underlying26 Tryf.underlying5 Tryf.underlying9]
    have hcells := World.ownsRow.cells h0 (g := g) rfl
    have hld := run_loadCells_list (P := Tryf.prog) W ⟨g, 0, none⟩ (B8 l) hcells
    rw [B8_length] at hld
    have hB : B8 l = (l.map fun b => (b.toNat : Int)).map (Value.int .u8) := by simp [B8]
    rw [hB] at hld
    rw [run_bytesToString W ⟨g, 0, none⟩ l.length cap _ hld, foldl_push]
    rfl

end Go.Proofs.Qxb6609533aFmt
