/-
  THE MEMORY OF shortestCycle's FIRST PART, over the lists it holds.
-/
import Derived.Test.Qxb6612201aPutW
import Derived.Test.Qxb6612201aMapG
import Derived.Test.Qxb6612201aSeqW
import Derived.Test.Qxb6612201aSpine
namespace Go.Proofs.Qxb6612201a
open Go.RowKit Go.Shelf
set_option linter.unusedVariables false
set_option linter.unusedSimpArgs false

def enc2 (x : Int × Int) : List Value := [.int .i64 x.1, .int .i64 x.2]

structure KO where
  (n items N bA bW bR base : Nat)

def KO.Ok (K : KO) : Prop := K.bA ≠ K.bW ∧ K.bA ≠ K.bR ∧ K.bW ≠ K.bR ∧ K.bA < K.base ∧ K.bW < K.base ∧ K.bR < K.base
def KO.dom (K : KO) (b o : Nat) : Prop := (b = K.bA ∧ o < K.n * 2) ∨ (b = K.bW ∧ o < K.items) ∨ (b = K.bR ∧ o < K.N)
def KO.ty (K : KO) (b o : Nat) : Nat := if b = K.bA then (if o % 2 = 0 then 64 else 56) else 50
def KO.sz (K : KO) (b o : Nat) : Nat := if b = K.bA then 3 else 2
def KO.len (K : KO) (L : Lists) (b o : Nat) : Nat := if b = K.bA then (if o % 2 = 0 then (L.wr (o / 2)).length else (L.rd (o / 2)).length) else if b = K.bW then (L.ws o).length else if b = K.bR then (L.rs o).length else 0
def KO.val (K : KO) (L : Lists) (b o : Nat) : List Value := if b = K.bA then (if o % 2 = 0 then (L.wr (o / 2)).flatMap encT else (L.rd (o / 2)).flatMap encT) else if b = K.bW then (L.ws o).flatMap enc2 else if b = K.bR then (L.rs o).flatMap enc2 else []

/-- The tables hold the lists; none of the rows lies in a block of F. -/
structure OpMem (K : KO) (L : Lists) (F : List Nat) (v : Nat → Nat → Value) (w : World) : Prop where
  rows : Rows K.base K.dom K.ty K.sz v (K.len L) (K.val L) w
  off : ∀ b o, K.dom b o → ∀ k, (v b o).ownBlock = some k → k ∉ F

section
variable {K : KO} {L : Lists} {F : List Nat} {v : Nat → Nat → Value} {w w' : World}

theorem OpMem.kept (h : OpMem K L F v w) (ht : Turned [] w w') : OpMem K L F v w' := ⟨h.rows.kept ht, h.off⟩

/-- A new block is none of theirs. -/
theorem OpMem.fresh (h : OpMem K L F v w) (ht : Turned [] w w') : OpMem K L (w.heap.size :: F) v w' := ⟨h.rows.kept ht, fun b o hd k hk hm => by
  rcases List.mem_cons.1 hm with e | e
  · have := ((h.rows.own b o hd).lt k hk).2
    omega
  · exact h.off b o hd k hk e⟩

/-- Behind a push. -/
theorem OpMem.pushed (h : OpMem K L F v w) {L' : Lists} {b o : Nat} {xs : List Value} (hd : K.dom b o) (hl : K.len L' = upd (K.len L) b o (K.len L b o + 1)) (hv : K.val L' = upd (K.val L) b o (K.val L b o ++ xs)) (hF : ∀ k ∈ F, k < w.heap.size)
    (hp : PutPost K.base K.dom K.ty K.sz v (K.len L) (K.val L) b o xs w w') : ∃ v', OpMem K L' F v' w' ∧ Turned (b :: (v b o).ownBlock.toList) w w' := by
  obtain ⟨v', r1, r2, r3⟩ := hp
  refine ⟨upd v b o v', ⟨by rw [hl, hv]; exact r1, fun b' o' hd' k hk hm => ?_⟩, r2⟩
  by_cases e : b' = b ∧ o' = o
  · obtain ⟨rfl, rfl⟩ := e
    rw [upd_same] at hk
    rcases r3 with r3 | ⟨j, r3, hj⟩
    · exact h.off b' o' hd k (by rw [← r3]; exact hk) hm
    · rw [r3] at hk
      have e2 : j = k := by simpa using hk
      subst e2
      have := hF j hm
      omega
  · rw [upd_other _ _ e] at hk
    exact h.off b' o' hd' k hk hm

/-- What a push leaves alone. -/
theorem OpMem.turned_keep (h : OpMem K L F v w) {b o : Nat} (hd : K.dom b o) (ht : Turned (b :: (v b o).ownBlock.toList) w w') {k : Nat} {x : Obj} (hk : w.heap[k]? = some x) (hne : k ≠ b) (hF : k ∈ F ∨ k < K.base) : w'.heap[k]? = some x := by
  refine ht.keep hk ?_
  simp only [List.mem_cons, not_or, Option.mem_toList]
  refine ⟨hne, fun e => ?_⟩
  rcases hF with hF | hF
  · exact h.off b o hd k e hF
  · have := ((h.rows.own b o hd).lt k e).1
    omega
end

theorem KO.len_rd (K : KO) (L : Lists) (t : Nat) (r : Int × Int × Int) (y : Int × Int) (hK : K.Ok) :
    K.len (L.reads t r y []) = upd (K.len L) K.bA (t * 2 + 1) (K.len L K.bA (t * 2 + 1) + 1) := by
  funext b o
  by_cases e : b = K.bA ∧ o = t * 2 + 1
  · obtain ⟨rfl, rfl⟩ := e
    rw [upd_same]
    simp only [KO.len, Lists.reads, if_true]
    rw [if_neg (by omega), if_neg (by omega), show (t * 2 + 1) / 2 = t by omega, updN_same, List.length_append]
    rfl
  · rw [upd_other _ _ e]
    simp only [KO.len, Lists.reads, List.count_nil, List.replicate_zero, List.append_nil]
    by_cases hb : b = K.bA
    · rw [if_pos hb, if_pos hb]
      by_cases ho : o % 2 = 0
      · rw [if_pos ho, if_pos ho]
      · rw [if_neg ho, if_neg ho, updN_other _ _ (by omega)]
    · rw [if_neg hb, if_neg hb]

theorem KO.val_rd (K : KO) (L : Lists) (t : Nat) (r : Int × Int × Int) (y : Int × Int) (hK : K.Ok) :
    K.val (L.reads t r y []) = upd (K.val L) K.bA (t * 2 + 1) (K.val L K.bA (t * 2 + 1) ++ encT r) := by
  funext b o
  by_cases e : b = K.bA ∧ o = t * 2 + 1
  · obtain ⟨rfl, rfl⟩ := e
    rw [upd_same]
    simp only [KO.val, Lists.reads, if_true]
    rw [if_neg (by omega), if_neg (by omega), show (t * 2 + 1) / 2 = t by omega, updN_same, List.flatMap_append]
    simp
  · rw [upd_other _ _ e]
    simp only [KO.val, Lists.reads, List.count_nil, List.replicate_zero, List.append_nil]
    by_cases hb : b = K.bA
    · rw [if_pos hb, if_pos hb]
      by_cases ho : o % 2 = 0
      · rw [if_pos ho, if_pos ho]
      · rw [if_neg ho, if_neg ho, updN_other _ _ (by omega)]
    · rw [if_neg hb, if_neg hb]

/-- A read kept at one node more. -/
theorem KO.len_rs (K : KO) (L : Lists) (t : Nat) (r : Int × Int × Int) (y : Int × Int) (ps : List Nat) (p : Nat) (hK : K.Ok) :
    K.len (L.reads t r y (ps ++ [p])) = upd (K.len (L.reads t r y ps)) K.bR p (K.len (L.reads t r y ps) K.bR p + 1) := by
  obtain ⟨k1, k2, k3, _⟩ := hK
  funext b o
  by_cases e : b = K.bR ∧ o = p
  · obtain ⟨rfl, rfl⟩ := e
    rw [upd_same]
    simp only [KO.len, Lists.reads, if_neg (Ne.symm k2), if_neg (Ne.symm k3), if_true]
    simp
    omega
  · rw [upd_other _ _ e]
    simp only [KO.len, Lists.reads]
    by_cases hb : b = K.bA
    · rw [if_pos hb, if_pos hb]
    · rw [if_neg hb, if_neg hb]
      by_cases hw : b = K.bW
      · rw [if_pos hw, if_pos hw]
      · rw [if_neg hw, if_neg hw]
        by_cases hr : b = K.bR
        · rw [if_pos hr, if_pos hr, List.count_append, List.count_singleton, if_neg (by simp; omega)]
          rfl
        · rw [if_neg hr, if_neg hr]

theorem KO.val_rs (K : KO) (L : Lists) (t : Nat) (r : Int × Int × Int) (y : Int × Int) (ps : List Nat) (p : Nat) (hK : K.Ok) :
    K.val (L.reads t r y (ps ++ [p])) = upd (K.val (L.reads t r y ps)) K.bR p (K.val (L.reads t r y ps) K.bR p ++ enc2 y) := by
  obtain ⟨k1, k2, k3, _⟩ := hK
  funext b o
  by_cases e : b = K.bR ∧ o = p
  · obtain ⟨rfl, rfl⟩ := e
    rw [upd_same]
    simp only [KO.val, Lists.reads, if_neg (Ne.symm k2), if_neg (Ne.symm k3), if_true]
    rw [List.count_append, List.count_singleton, if_pos (by simp), List.replicate_succ', ← List.append_assoc, List.flatMap_append]
    simp
  · rw [upd_other _ _ e]
    simp only [KO.val, Lists.reads]
    by_cases hb : b = K.bA
    · rw [if_pos hb, if_pos hb]
    · rw [if_neg hb, if_neg hb]
      by_cases hw : b = K.bW
      · rw [if_pos hw, if_pos hw]
      · rw [if_neg hw, if_neg hw]
        by_cases hr : b = K.bR
        · rw [if_pos hr, if_pos hr, List.count_append, List.count_singleton, if_neg (by simp; omega)]
          rfl
        · rw [if_neg hr, if_neg hr]

/-- The items' writes alone. -/
def Lists.wrote (L : Lists) (x : Nat) (y : Int × Int) : Lists := { L with ws := updN L.ws x (L.ws x ++ [y]) }

theorem KO.len_ws (K : KO) (L : Lists) (x : Nat) (y : Int × Int) (hK : K.Ok) :
    K.len (L.wrote x y) = upd (K.len L) K.bW x (K.len L K.bW x + 1) := by
  obtain ⟨k1, k2, k3, _⟩ := hK
  funext b o
  by_cases e : b = K.bW ∧ o = x
  · obtain ⟨rfl, rfl⟩ := e
    rw [upd_same]
    simp only [KO.len, Lists.wrote, if_neg (Ne.symm k1), if_true]
    rw [updN_same, List.length_append]
    rfl
  · rw [upd_other _ _ e]
    simp only [KO.len, Lists.wrote]
    by_cases hb : b = K.bA
    · rw [if_pos hb, if_pos hb]
    · rw [if_neg hb, if_neg hb]
      by_cases hw : b = K.bW
      · rw [if_pos hw, if_pos hw, updN_other _ _ (fun h => e ⟨hw, h⟩)]
      · rw [if_neg hw, if_neg hw]

theorem KO.val_ws (K : KO) (L : Lists) (x : Nat) (y : Int × Int) (hK : K.Ok) :
    K.val (L.wrote x y) = upd (K.val L) K.bW x (K.val L K.bW x ++ enc2 y) := by
  obtain ⟨k1, k2, k3, _⟩ := hK
  funext b o
  by_cases e : b = K.bW ∧ o = x
  · obtain ⟨rfl, rfl⟩ := e
    rw [upd_same]
    simp only [KO.val, Lists.wrote, if_neg (Ne.symm k1), if_true]
    rw [updN_same, List.flatMap_append]
    simp
  · rw [upd_other _ _ e]
    simp only [KO.val, Lists.wrote]
    by_cases hb : b = K.bA
    · rw [if_pos hb, if_pos hb]
    · rw [if_neg hb, if_neg hb]
      by_cases hw : b = K.bW
      · rw [if_pos hw, if_pos hw, updN_other _ _ (fun h => e ⟨hw, h⟩)]
      · rw [if_neg hw, if_neg hw]

/-- A transaction's writes set anew. -/
def Lists.wrs (L : Lists) (t : Nat) (l : List (Int × Int × Int)) : Lists := { L with wr := updN L.wr t l }

theorem KO.len_wr (K : KO) (L : Lists) (t : Nat) (l : List (Int × Int × Int)) (hK : K.Ok) :
    K.len (L.wrs t l) = upd (K.len L) K.bA (t * 2) l.length := by
  funext b o
  by_cases e : b = K.bA ∧ o = t * 2
  · obtain ⟨rfl, rfl⟩ := e
    rw [upd_same]
    simp only [KO.len, Lists.wrs, if_true]
    rw [if_pos (by omega), show (t * 2) / 2 = t by omega, updN_same]
  · rw [upd_other _ _ e]
    simp only [KO.len, Lists.wrs]
    by_cases hb : b = K.bA
    · rw [if_pos hb, if_pos hb]
      by_cases ho : o % 2 = 0
      · rw [if_pos ho, if_pos ho, updN_other _ _ (by omega)]
      · rw [if_neg ho, if_neg ho]
    · rw [if_neg hb, if_neg hb]

theorem KO.val_wr (K : KO) (L : Lists) (t : Nat) (l : List (Int × Int × Int)) (hK : K.Ok) :
    K.val (L.wrs t l) = upd (K.val L) K.bA (t * 2) (l.flatMap encT) := by
  funext b o
  by_cases e : b = K.bA ∧ o = t * 2
  · obtain ⟨rfl, rfl⟩ := e
    rw [upd_same]
    simp only [KO.val, Lists.wrs, if_true]
    rw [if_pos (by omega), show (t * 2) / 2 = t by omega, updN_same]
  · rw [upd_other _ _ e]
    simp only [KO.val, Lists.wrs]
    by_cases hb : b = K.bA
    · rw [if_pos hb, if_pos hb]
      by_cases ho : o % 2 = 0
      · rw [if_pos ho, if_pos ho, updN_other _ _ (by omega)]
      · rw [if_neg ho, if_neg ho]
    · rw [if_neg hb, if_neg hb]

theorem KO.at_wr (K : KO) (L : Lists) (t : Nat) : K.len L K.bA (t * 2) = (L.wr t).length ∧ K.val L K.bA (t * 2) = (L.wr t).flatMap encT ∧ K.ty K.bA (t * 2) = 64 ∧ K.sz K.bA (t * 2) = 3 := by
  simp only [KO.len, KO.val, KO.ty, KO.sz, if_true]
  rw [if_pos (by omega), if_pos (by omega), if_pos (by omega), show (t * 2) / 2 = t by omega]
  simp

theorem KO.at_rd (K : KO) (L : Lists) (t : Nat) : K.len L K.bA (t * 2 + 1) = (L.rd t).length ∧ K.val L K.bA (t * 2 + 1) = (L.rd t).flatMap encT ∧ K.ty K.bA (t * 2 + 1) = 56 ∧ K.sz K.bA (t * 2 + 1) = 3 := by
  simp only [KO.len, KO.val, KO.ty, KO.sz, if_true]
  rw [if_neg (by omega), if_neg (by omega), if_neg (by omega), show (t * 2 + 1) / 2 = t by omega]
  simp

theorem KO.at_ws (K : KO) (L : Lists) (x : Nat) (hK : K.Ok) : K.len L K.bW x = (L.ws x).length ∧ K.val L K.bW x = (L.ws x).flatMap enc2 ∧ K.ty K.bW x = 50 ∧ K.sz K.bW x = 2 := by
  obtain ⟨k1, k2, k3, _⟩ := hK
  simp only [KO.len, KO.val, KO.ty, KO.sz, if_true, if_neg (Ne.symm k1)]
  simp

theorem KO.at_rs (K : KO) (L : Lists) (x : Nat) (hK : K.Ok) : K.len L K.bR x = (L.rs x).length ∧ K.val L K.bR x = (L.rs x).flatMap enc2 ∧ K.ty K.bR x = 50 ∧ K.sz K.bR x = 2 := by
  obtain ⟨k1, k2, k3, _⟩ := hK
  simp only [KO.len, KO.val, KO.ty, KO.sz, if_true, if_neg (Ne.symm k2), if_neg (Ne.symm k3)]
  simp

end Go.Proofs.Qxb6612201a
