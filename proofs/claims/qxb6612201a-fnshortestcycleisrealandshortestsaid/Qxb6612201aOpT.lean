/-
  THE TEXT OF shortestCycle's FIRST LOOP, taken apart; A DRAWN APPEND, and what it leaves.
-/
import Derived.Test.Qxb6612201aOpM
import Derived.Test.Qxb6612201aOrdD
namespace Go.Proofs.Qxb6612201a
open Go.RowKit Go.Shelf
set_option linter.unusedVariables false
set_option linter.unusedSimpArgs false

def sndS : Code → Code
  | .seq _ b => b
  | c => c
def inB : Code → Code
  | .block _ c => c
  | c => c
def inL : Code → Code
  | .loop c => c
  | c => c
def thenC : Code → Code
  | .cond _ a _ => a
  | c => c
def lp0 (f : Func) : Code := inL (inB (sndS (headS (dropS 6 (b14 f)))))
def lb1 (f : Func) : Code := inB (headS (dropS 2 (lp0 f)))
def rdB (f : Func) : Code := thenC (sndS (headS (dropS 3 (lb1 f))))
def wrB (f : Func) : Code := dropS 4 (lb1 f)
def newB (f : Func) : Code := thenC (sndS (headS (dropS 6 (lb1 f))))

theorem Try.info56 : (Try.prog.info? 56).map (fun i => (i.zero, i.size, i.bytes)) = some (some (.agg #[.int .i64 0, .int .i64 0, .int .i64 0]), 3, 24) := by kernel_rfl

/-- What an append and a store leave. -/
theorem push_law {base : Nat} {dom : Nat → Nat → Prop} {ty sz : Nat → Nat → Nat} {v : Nat → Nat → Value} {len : Nat → Nat → Nat} {val : Nat → Nat → List Value} {b o : Nat} {xs : List Value} {w W0 w1 : World} {g cap : Nat} (hR : Rows base dom ty sz v len val w) (hd : dom b o) (h0 : Turned [] w W0)
    (h1 : w1.ownsRow base (ty b o) (sz b o) (.slice (some ⟨g, 0, none⟩) (len b o + 1) cap) (len b o + 1) (val b o ++ xs)) (h2 : W0.grownBy w1 (v b o).ownBlock) (h3 : (v b o).ownBlock = some g ∨ w.heap.size ≤ g) :
    PutPost base dom ty sz v len val b o xs w (w1.setCell ⟨b, o, none⟩ (.slice (some ⟨g, 0, none⟩) (len b o + 1) cap)) ∧ Turned (v b o).ownBlock.toList w w1 := by
  have hg : w.grownBy w1 (v b o).ownBlock := ⟨h2.os.trans h0.os, h2.tape.trans h0.tape, h2.output.trans h0.output, Nat.le_trans h0.size h2.size, fun k hk hne => (h2.block k (Nat.lt_of_lt_of_le hk h0.size) hne).trans (h0.block k hk (by simp))⟩
  have hh : (Value.slice (some ⟨g, 0, none⟩) (len b o + 1) cap).ownBlock = (v b o).ownBlock ∨ ∃ k, (Value.slice (some ⟨g, 0, none⟩) (len b o + 1) cap).ownBlock = some k ∧ w.heap.size ≤ k := by
    rcases h3 with h3 | h3
    · exact .inl h3.symm
    · exact .inr ⟨g, rfl, h3⟩
  obtain ⟨r1, r2, r3, r4⟩ := hR.push hd hg h1 hh
  exact ⟨⟨_, r1, r2, hh⟩, Turned.of_grown hg _ (fun k hk => by rw [hk]; simp)⟩

theorem Turned.wide {S : List Nat} {w w' : World} (h : Turned [] w w') : Turned S w w' := ⟨h.os, h.tape, h.output, h.size, fun k hk _ => h.block k hk (by simp)⟩
theorem Turned.cell {S : List Nat} {w w' : World} (h : Turned S w w') {a : Addr} {x : Value} (hc : w.cell? a = some x) (hne : a.block ∉ S) : w'.cell? a = some x := (World.cell?_of_block (h.block a.block (World.block_lt_of_cell? w a hc) hne)).trans hc
theorem Turned.free {S : List Nat} {w w' : World} (h : Turned S w w') {a : Addr} (hl : a.block < w.heap.size) (hc : w.frozen? a = false) (hne : a.block ∉ S) : w'.frozen? a = false := (World.frozen?_of_block (h.block a.block hl hne)).trans hc

end Go.Proofs.Qxb6612201a
