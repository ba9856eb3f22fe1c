/-
  WALK: ZZshortestCycle (11): the least shortest cycle; PLAIN: what does not hang on the distances' form.
-/
import Derived.Test.Qxb6612201aScW
import Derived.Test.Qxb6612201aNearW
namespace Go.Proofs.Qxb6612201a
open Go.RowKit Go.Shelf
set_option linter.unusedVariables false
set_option linter.unusedSimpArgs false

section
variable {R : Nat → Nat → Prop} {s : Nat} {d e : Nat → Int}

theorem IsDist.same (hd : IsDist R s d) (he : IsDist R s e) {v : Nat} (h : 0 ≤ d v) : e v = d v := by
  have h1 := he.least v _ (hd.sound v h)
  have h2 := hd.least v _ (he.sound v h1.1)
  omega

theorem IsLow.congr {E : Nat → Nat → Prop} (hd : IsDist R s d) (he : IsDist R s e) {u w : Nat} {k : Int} (hk : 0 ≤ k) (h : IsLow E d u k w) : IsLow E e u k w := by
  refine ⟨h.1, ?_, fun x hx hex => h.2.2 x hx ⟨hex.1, ?_⟩⟩
  · rw [hd.same he (by rw [h.2.1]; exact hk)]
    exact h.2.1
  · rw [he.same hd (by rw [hex.2]; exact hk)]
    exact hex.2

theorem Tail.congr {E : Nat → Nat → Prop} (hd : IsDist R s d) (he : IsDist R s e) : ∀ {l : List Nat} {u : Nat}, Tail E d u l → Tail E e u l
  | [], u, h => by
    have h0 : d u = 0 := h
    exact Tail.stop (by rw [hd.same he (by omega)]; exact h0)
  | x :: l, u, h => by
    obtain ⟨rfl, h1, w, hl, ht⟩ := h
    have e1 : e x = d x := hd.same he (by omega)
    exact Tail.step (by omega) (by rw [e1]; exact hl.congr hd he (by omega)) (Tail.congr hd he ht)

theorem Cyc.congr {E : Nat → Nat → Prop} (hd : IsDist R s d) (he : IsDist R s e) {L : List Nat} (h : Cyc E d s L) : Cyc E e s L := by
  obtain ⟨u, l, m, rfl, h0, hlow, hm, ht⟩ := h
  refine ⟨u, l, m, rfl, h0, hlow.congr hd he h0, fun v hv hev => ?_, ht.congr hd he⟩
  have e1 : d v = e v := he.same hd hev
  have := hm v hv (by omega)
  omega
end

theorem EndPost.wide {E : Nat → Nat → Prop} {s : Nat} {ds : List Int} {w w2 w' : World} {e : Ending} (h : EndPost E s ds w2 e w') (ht : Turned [] w w2) : EndPost E s ds w e w' := by
  obtain ⟨v, L, rfl, h1, h2, h3⟩ := h
  exact ⟨v, L, rfl, own_mono h1 ht.size, h2, (ht.below (Nat.le_refl _) (by simp)).trans (h3.mono ht.size)⟩

theorem zzsc_any (h : Hist) (n items s m gk gt gl gh go : Nat) (ak at' al ah ao ta : Option Addr) (ck ct cl ch co tc : Nat) (a6 a7 : Option Addr) (l6 q6 l7 q7 : Nat) (w : World) (hn : (n : Int) ≤ 1024) (hm : (m : Int) ≤ 1024) (hs : (s : Int) < n) (hit : (items : Int) ≤ 65536)
    (hk : Hid (Row w .i64 ak gk m h.ks)) (ht : Hid (Row w .i64 at' gt m h.ts)) (hl : Hid (Row w .i64 al gl m h.los)) (hh : Hid (Row w .i64 ah gh m h.his)) (ho : Hid (Row w .i8 ao go n h.ocs))
    (S : Hid (∀ i, i < m → OpOk n items (iAt h.ks i) (iAt h.ts i) (iAt h.los i) (iAt h.his i)))
    (hon : Hid (∀ d : Nat → Int, IsDist (fun a b => h.Edge m b a) s d → ∃ v, h.Edge m s v ∧ 0 ≤ d v)) :
    Calls Try.prog 11 #[.slice ak m ck, .slice at' m ct, .slice al m cl, .slice ah m ch, .slice ta n tc, .slice ao n co, .slice a6 l6 q6, .slice a7 l7 q7, .int .i64 (items : Int), .int .i64 (s : Int)] w fun e w' => ∃ ds : List Int, IsDist (fun a b => h.Edge m b a) s (dAt ds) ∧ EndPost (h.Edge m) s ds w e w' := by
  refine zz_any h n items s m gk gt gl gh go ak at' al ah ao ta ck ct cl ch co tc a6 a7 l6 q6 l7 q7 w hn hm hk ht hl hh ho _ (hidden fun w2 gOps gO t hops hocs => ?_)
  refine (sc_any h n items s m gOps gO _ _ ta tc w2 hn hs hit (hidden (by omega)) (hidden hops) (hidden hocs) S hon).mono ?_
  rintro e w' ⟨ds, h1, h2⟩
  obtain ⟨v, L, h3, _⟩ := id h2
  exact ⟨⟨v, h3⟩, ds, h1, h2.wide t⟩

theorem edge_lt {h : Hist} {m n : Nat} {items : Int} (S : ∀ i, i < m → OpOk n items (iAt h.ks i) (iAt h.ts i) (iAt h.los i) (iAt h.his i)) (u v : Nat) (he : h.Edge m u v) : u < n ∧ v < n := by
  obtain ⟨i, j, hij, hj, hu, hv, _⟩ := he
  have h1 := S i (by omega)
  have h2 := S j hj
  have := h1.2.1
  have := h2.2.1
  omega

end Go.Proofs.Qxb6612201a
