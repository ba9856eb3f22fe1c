/-
  THE WALK OVER FnGrantNamePrintableASCII.
-/
import Derived.Test.Qxb6609533aFmtName
import Derived.Test.Qxb6609533aFmtBuf
import Derived.Deep.RegionWith
namespace Go.Proofs.Qxb6609533aFmt
open Go.RowKit Go.Extern.Stop Go.Stop Go.Extern Plain

theorem hid {p : Prop} (h : p) : Hid p := h

def pre7 : List UInt8 := [103, 114, 97, 110, 116, 32, 34]

theorem esc_take_le (id : ByteArray) (m : Nat) (hm : m ≤ id.size) : (pre7 ++ escA (id.data.toList.take m)).length ≤ 7 + 2 * id.size := by
  have := escA_length_le (id.data.toList.take m)
  have h2 : (id.data.toList.take m).length ≤ m := List.length_take_le _ _
  simp only [pre7, List.length_append, List.length_cons, List.length_nil]
  omega

theorem esc_take_succ (id : ByteArray) (m : Nat) (hm : m < id.size) : escA (id.data.toList.take (m + 1)) = escA (id.data.toList.take m) ++ (if id[m] = 34 ∨ id[m] = 92 then [92, id[m]] else [id[m]]) := by
  rw [List.take_succ_eq_append_getElem (by simpa using hm), escA_append]
  simp only [escA, List.append_nil]
  rfl

theorem cases34 (c : UInt8) : ((((c.toNat : Nat) : Int) == 34) = true ∧ (c = 34 ∨ c = 92)) ∨ ((((c.toNat : Nat) : Int) == 34) = false ∧ (((c.toNat : Nat) : Int) == 92) = true ∧ (c = 34 ∨ c = 92)) ∨ ((((c.toNat : Nat) : Int) == 34) = false ∧ (((c.toNat : Nat) : Int) == 92) = false ∧ ¬ (c = 34 ∨ c = 92)) := by
  have e34 : c = 34 ↔ c.toNat = 34 := by rw [← UInt8.toNat_inj]; rfl
  have e92 : c = 92 ↔ c.toNat = 92 := by rw [← UInt8.toNat_inj]; rfl
  rw [e34, e92]
  simp only [beq_iff_eq, beq_eq_false_iff_ne]
  omega

theorem name_ascii (id : ByteArray) (m : Nat) (hm : id.size ≤ m) (h : ∀ j (hj : j < id.size), 32 ≤ id[j].toNat ∧ id[j].toNat ≤ 126) : (pre7 ++ escA (id.data.toList.take m)) ++ [34] = nameText id.data.toList := by
  rw [List.take_of_length_le (by rw [show id.data.toList.length = id.size from Array.length_toList]; exact hm), nameText, quote_ascii]
  · simp [pre7]
  · intro c hc
    obtain ⟨j, hj, rfl⟩ := List.getElem_of_mem hc
    exact h j (by simpa using hj)

set_option maxHeartbeats 800000 in
theorem ascii_rest (F : Interp) (id : ByteArray) (w : World) (hF : F.told.answers w.tape) (hl : id.size ≤ 65536) :
    Calls Tryf.prog 4 #[.string id] w fun e w' => e = .returned (.bool true) ∧ Below w.heap.size w w' := by
  have h20 : decide (id.size ≤ 1048576) = true := by simp; omega
  go_enter Tryf.func4, Tryf.ntmps4
  go_wp2_with (go_at_call 8; refine (bytes8_any _ _ (by unfold maxLen; omega)).mono ?_; rintro e w' ⟨rfl, rfl⟩)
  go_loop [3] (fun i => ∃ k : Nat, k ≤ id.size ∧ i = .int .i64 k ∧ ∀ j (h : j < id.size), j < k → 32 ≤ id[j].toNat ∧ id[j].toNat ≤ 126) (fun i => id.size - (intOf i).toNat)
  case atStart => exact ⟨0, Nat.zero_le _, rfl, fun _ _ h => by omega⟩
  case round =>
    obtain ⟨k, hk, rfl, hall⟩ := hrel
    by_cases hlt : k < id.size
    · by_cases h1 : 32 ≤ id[k].toNat
      · by_cases h2 : id[k].toNat ≤ 126
        · have HA : Hid (∀ j (h : j < id.size), j < k → 32 ≤ id[j].toNat ∧ id[j].toNat ≤ 126) := hall
          clear hall
          go_wp2
          go_round
          case rel =>
            refine ⟨k + 1, by omega, by go_num, fun j hj hjk => ?_⟩
            by_cases e : j = k
            · subst e; exact ⟨h1, h2⟩
            · exact HA.out j hj (by omega)
          case measure => simp [intOf]; omega
        · clear hall
          go_wp2
          go_ret
          exact ⟨rfl, Below.refl _ _⟩
      · clear hall
        go_wp2
        go_ret
        exact ⟨rfl, Below.refl _ _⟩
    · have HA : Hid (∀ j (h : j < id.size), j < k → 32 ≤ id[j].toNat ∧ id[j].toNat ≤ 126) := hall
      clear hall
      go_wp2_with (first
        | (at_make; refine buf_make _ rfl _ _ rfl w.heap.size _ (2 * id.size + 8) rfl rfl (by omega) (by omega) (Nat.le_refl _) ?_; intro v1 w1 hb1 hw1)
        | (at_builtin; refine buf_append_str _ rfl _ _ rfl w.heap.size _ _ rfl hb1 _ rfl (by decide) (by exact hw1.size) ?_; intro v2 w2 hb2 hw2)
        | (at_builtin; refine buf_append _ rfl (.tmp 35) _ rfl w.heap.size _ _ rfl (hb2.alloc _) ⟨w2.heap.size, 0, none⟩ 1 1 [34] rfl rfl (cell_one_new _ _ _) (by decide) (by have := hw1.size; have := hw2.size; simp; omega) ?_; intro v3 w3 hb3 hw3))
      have hs3 : Below w.heap.size w w3 := ((hw1.trans hw2).alloc (by have := hw1.size; have := hw2.size; omega) _).trans hw3
      have hb3' : Buf w.heap.size w3 v3 (pre7 ++ escA (id.data.toList.take 0)) := hb3
      clear hb1 hb2 hb3 hw1 hw2 hw3
      go_loopw [4, 5] (fun v i wr => ∃ m : Nat, m ≤ id.size ∧ i = .int .i64 m ∧ Buf w.heap.size wr v (pre7 ++ escA (id.data.toList.take m)) ∧ Below w.heap.size w wr) (fun _ i _ => id.size - (intOf i).toNat)
      case atStart => exact ⟨0, Nat.zero_le _, rfl, hb3', hs3⟩
      case round =>
        clear hb3' hs3
        obtain ⟨m, hm, rfl, hb, hw⟩ := hrel
        have hln := esc_take_le id m hm
        by_cases hmt : m < id.size
        · have HE : Hid (escA (id.data.toList.take (m + 1)) = escA (id.data.toList.take m) ++ (if id[m] = 34 ∨ id[m] = 92 then [92, id[m]] else [id[m]])) := esc_take_succ id m hmt
          rcases cases34 id[m] with ⟨h1, hx⟩ | ⟨h1, h2, hx⟩ | ⟨h1, h2, hx⟩
          · have HX := hid hx
            clear hx
            go_wp2_with (first
              | (at_builtin; refine buf_append _ rfl (.tmp 54) _ rfl w.heap.size _ _ rfl (hb.alloc _) ⟨wr.heap.size, 0, none⟩ 1 1 [92] rfl rfl (cell_one_new _ _ _) (by omega) (by have := hw.size; simp; omega) ?_; intro v4 w4 hb4 hw4)
              | (at_builtin; refine buf_append _ rfl (.tmp 57) _ rfl w.heap.size _ _ rfl (hb4.alloc _) ⟨w4.heap.size, 0, none⟩ 1 1 [id[m]] rfl rfl (cell_one_new _ _ _) (by simp only [List.length_append] at hln ⊢; simp only [List.length_cons, List.length_nil]; omega) (by have := hw.size; have := hw4.size; simp at *; omega) ?_; intro v5 w5 hb5 hw5))
            go_roundw
            case rel =>
              refine ⟨m + 1, by omega, by go_num, ?_, ?_⟩
              · rw [HE.out, if_pos HX.out]
                simpa using hb5
              · have g1 := hw.size
                exact (((hw.alloc g1 _).trans hw4).alloc (by have := hw4.size; simp at this; omega) _).trans hw5
            case measure => simp [intOf]; omega
          · have HX := hid hx
            clear hx
            go_wp2_with (first
              | (at_builtin; refine buf_append _ rfl (.tmp 54) _ rfl w.heap.size _ _ rfl (hb.alloc _) ⟨wr.heap.size, 0, none⟩ 1 1 [92] rfl rfl (cell_one_new _ _ _) (by omega) (by have := hw.size; simp; omega) ?_; intro v4 w4 hb4 hw4)
              | (at_builtin; refine buf_append _ rfl (.tmp 57) _ rfl w.heap.size _ _ rfl (hb4.alloc _) ⟨w4.heap.size, 0, none⟩ 1 1 [id[m]] rfl rfl (cell_one_new _ _ _) (by simp only [List.length_append] at hln ⊢; simp only [List.length_cons, List.length_nil]; omega) (by have := hw.size; have := hw4.size; simp at *; omega) ?_; intro v5 w5 hb5 hw5))
            go_roundw
            case rel =>
              refine ⟨m + 1, by omega, by go_num, ?_, ?_⟩
              · rw [HE.out, if_pos HX.out]
                simpa using hb5
              · have g1 := hw.size
                exact (((hw.alloc g1 _).trans hw4).alloc (by have := hw4.size; simp at this; omega) _).trans hw5
            case measure => simp [intOf]; omega
          · have HX := hid hx
            clear hx
            go_wp2_with (first
              | (at_builtin; refine buf_append _ rfl (.tmp 57) _ rfl w.heap.size _ _ rfl (hb.alloc _) ⟨wr.heap.size, 0, none⟩ 1 1 [id[m]] rfl rfl (cell_one_new _ _ _) (by omega) (by have := hw.size; simp; omega) ?_; intro v5 w5 hb5 hw5))
            go_roundw
            case rel =>
              refine ⟨m + 1, by omega, by go_num, ?_, (hw.alloc hw.size _).trans hw5⟩
              rw [HE.out, if_neg HX.out]
              simpa using hb5
            case measure => simp [intOf]; omega
        · have hfin : (pre7 ++ escA (id.data.toList.take m)) ++ [34] = nameText id.data.toList := name_ascii id m (by omega) (fun j hj => HA.out j hj (by omega))
          have HFIN := hid hfin
          clear hfin
          go_wp2_with (at_builtin; refine buf_append _ rfl (.tmp 63) _ rfl w.heap.size _ _ rfl (hb.alloc _) ⟨wr.heap.size, 0, none⟩ 1 1 [34] rfl rfl (cell_one_new _ _ _) (by omega) (by have := hw.size; simp; omega) ?_; intro v6 w6 hb6 hw6)
          rw [HFIN.out] at hb6
          have hw7 : Below w.heap.size w w6 := (hw.alloc hw.size _).trans hw6
          have hF6 : F.told.answers w6.tape := by rw [hw7.tape]; exact hF
          have hc1 : (convert 26 9 v6).run Tryf.prog w6.drew = .ok (.string ⟨(nameText id.data.toList).toArray⟩) w6.drew := buf_string hb6.drew
          have hc2 : (convert 26 9 v6).run Tryf.prog (w6.alloc (.cells #[.iface 9 (.string id)] 20)).drew.drew = .ok (.string ⟨(nameText id.data.toList).toArray⟩) (w6.alloc (.cells #[.iface 9 (.string id)] 20)).drew.drew := buf_string (hb6.alloc _).drew.drew
          have hz6 := hw7.size
          clear hw6 hb hw HA
          go_region_with (go_at_call 6; refine (grantName_told F id _ (by exact hF6) (by omega)).mono ?_; rintro e w' ⟨rfl, rfl⟩)
          all_goals
            go_wp2
            go_ret
            exact ⟨rfl, ((hw7.alloc hz6 _).drew).drew⟩

set_option maxHeartbeats 800000 in
theorem ascii_any (F : Interp) (id : ByteArray) (w : World) (hF : F.told.answers w.tape) (hl : id.size ≤ maxLen) :
    Calls Tryf.prog 4 #[.string id] w fun e w' => e = .returned (.bool true) ∧ Below w.heap.size w w' := by
  by_cases h1 : id.size ≤ 65536
  · exact ascii_rest F id w hF h1
  · unfold maxLen at hl
    by_cases h2 : id.size ≤ 1048576
    · have h20 : decide (id.size ≤ 1048576) = true := by simp; omega
      go_enter Tryf.func4, Tryf.ntmps4
      go_wp2_with (go_at_call 8; refine (bytes8_any _ _ (by unfold maxLen; omega)).mono ?_; rintro e w' ⟨rfl, rfl⟩)
      go_ret
      exact ⟨rfl, Below.refl _ _⟩
    · have h20 : decide (id.size ≤ 1048576) = false := by simp; omega
      go_enter Tryf.func4, Tryf.ntmps4
      go_wp2_with (go_at_call 8; refine (bytes8_any _ _ (by unfold maxLen; omega)).mono ?_; rintro e w' ⟨rfl, rfl⟩)
      go_ret
      exact ⟨rfl, Below.refl _ _⟩

end Go.Proofs.Qxb6609533aFmt
