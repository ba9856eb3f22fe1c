/-
  THE WALK OVER FnGrantNameQuotesTheID.
-/
import Derived.Test.Qxb6609533aFmtUnw
import Derived.Test.Qxb6609533aFmtName
namespace Go.Proofs.Qxb6609533aFmt
open Go.RowKit Go.Extern.Stop Go.Stop Go.Extern Plain

theorem unquote_any (q : ByteArray) (body s : List UInt8) (w : World) (hq : q.data.toList = 34 :: (body ++ [34])) (hp : Pieces body s) (hlen : body.length ≤ 999990) (hs : s.length ≤ 1000000) :
    Calls Tryf.prog 7 #[.string q] w fun e w' => e = .returned (.tuple #[.string ⟨s.toArray⟩, .bool true]) ∧ Below w.heap.size w w' := by
  have hsz : q.size = body.length + 2 := by
    have h1 : q.data.toList.length = q.size := Array.length_toList
    rw [← h1, hq]; simp
  have get : ∀ j (h : j < q.size), q[j] = (34 :: (body ++ [34]))[j]'(by simp; omega) := by
    intro j h
    have h2 : q[j] = q.data.toList[j]'(by simpa using h) := rfl
    rw [h2]
    simp only [hq]
  have g0 : q[0]'(by omega) = 34 := by rw [get]; rfl
  have g1 : q[q.size - 1]'(by omega) = 34 := by
    rw [get]
    have e : q.size - 1 = body.length + 1 := by omega
    simp [e]
  refine unquote_walk q s w ⟨body.toArray⟩ (by omega) (by omega) (by rw [g0]; rfl) (by rw [g1]; rfl) ?_ (by simp [ByteArray.size]; omega) hs hp
  show q.extract 1 (q.size - 1) = _
  apply ByteArray.ext
  apply Array.ext'
  rw [ByteArray.data_extract, Array.toList_extract, hq, hsz]
  simp [List.extract]

theorem name_facts (l : List UInt8) : ∃ body, nameText l = [103, 114, 97, 110, 116, 32] ++ (34 :: (body ++ [34])) ∧ Pieces body l ∧ body.length ≤ 10 * l.length := by
  obtain ⟨body, h1, h2⟩ := quote_is l
  refine ⟨body, by rw [nameText, h1], h2, ?_⟩
  have := FmtText.quote_length_le l
  rw [h1] at this
  simp at this
  omega

theorem toList_is (b : ByteArray) : b.toList = b.data.toList := Go.ByteArray.toList_eq b

theorem pre_is (S : ByteArray) (l : List UInt8) (h : S.data.toList = [103, 114, 97, 110, 116, 32] ++ l) : ((S.extract 0 6).toList == [103, 114, 97, 110, 116, 32]) = true := by
  rw [toList_is, ByteArray.data_extract, Array.toList_extract, h]
  simp [List.extract]

theorem rest_is (S : ByteArray) (l : List UInt8) (h : S.data.toList = [103, 114, 97, 110, 116, 32] ++ l) : (S.extract 6 S.size).data.toList = l := by
  have hs : S.data.toList.length = S.size := Array.length_toList
  rw [ByteArray.data_extract, Array.toList_extract, ← hs, h]
  simp [List.extract]

theorem eta (id : ByteArray) : (⟨id.data.toList.toArray⟩ : ByteArray) = id := by
  apply ByteArray.ext
  simp

set_option maxRecDepth 100000 in
set_option maxHeartbeats 800000 in
theorem quotes_walk (F : Interp) (id : ByteArray) (w : World) (hF : F.told.answers w.tape) (hl : id.size ≤ 65536) (S : ByteArray) (HS : Hid ((⟨(nameText id.data.toList).toArray⟩ : ByteArray) = S))
    (hS1 : 8 ≤ S.size) (hS2 : S.size ≤ 700000) (hpre : ((S.extract 0 6).toList == [103, 114, 97, 110, 116, 32]) = true)
    (HQ : ∀ w', Calls Tryf.prog 7 #[.string (S.extract 6 S.size)] w' fun e w'' => e = .returned (.tuple #[.string id, .bool true]) ∧ Below w'.heap.size w' w'') :
    Calls Tryf.prog 3 #[.string id] w fun e w' => e = .returned (.bool true) ∧ Below w.heap.size w w' := by
  have h20 : decide (id.size ≤ 1048576) = true := by simp; omega
  have HQ' := hidden HQ
  clear HQ
  go_enter Tryf.func3, Tryf.ntmps3
  go_wp2_with (go_at_call 5; refine (bytes5_any _ _ (by unfold maxLen; omega)).mono ?_; rintro e w' ⟨rfl, rfl⟩)
  refine (grantName_told F id _ hF (by omega)).mono ?_
  rintro e w' ⟨rfl, rfl⟩
  rw [HS.out]
  go_wp2_with fail
  refine (HQ'.out _).mono ?_
  rintro e w' ⟨rfl, hw⟩
  go_wp2
  go_ret
  refine ⟨by simp, ?_⟩
  have hb : Below w.heap.size w (w.alloc (Obj.cells #[Value.iface 9 (Value.string id)] 20)).drew := ((Below.refl _ w).alloc (Nat.le_refl _) _).drew
  exact hb.trans (hw.mono (by simp))

theorem quotes_rest (F : Interp) (id : ByteArray) (w : World) (hF : F.told.answers w.tape) (hl : id.size ≤ 65536) :
    Calls Tryf.prog 3 #[.string id] w fun e w' => e = .returned (.bool true) ∧ Below w.heap.size w w' := by
  obtain ⟨body, hn, hp, hbl⟩ := name_facts id.data.toList
  have hsz : id.data.toList.length = id.size := Array.length_toList
  obtain ⟨S, hS⟩ : ∃ S : ByteArray, (⟨(nameText id.data.toList).toArray⟩ : ByteArray) = S := ⟨_, rfl⟩
  have hSd : S.data.toList = [103, 114, 97, 110, 116, 32] ++ (34 :: (body ++ [34])) := by rw [← hS, ← hn]
  have hSl : S.size = body.length + 8 := by
    have h1 : S.data.toList.length = S.size := Array.length_toList
    rw [← h1, hSd]; simp
  refine quotes_walk F id w hF hl S hS (by omega) (by omega) (pre_is S _ hSd) ?_
  intro w'
  have hu := unquote_any (S.extract 6 S.size) body id.data.toList w' (rest_is S _ hSd) hp (by omega) (by omega)
  rw [eta] at hu
  exact hu

set_option maxHeartbeats 800000 in
theorem quotes_any (F : Interp) (id : ByteArray) (w : World) (hF : F.told.answers w.tape) (hl : id.size ≤ maxLen) :
    Calls Tryf.prog 3 #[.string id] w fun e w' => e = .returned (.bool true) ∧ Below w.heap.size w w' := by
  by_cases h1 : id.size ≤ 65536
  · exact quotes_rest F id w hF h1
  · unfold maxLen at hl
    by_cases h2 : id.size ≤ 1048576
    · have h20 : decide (id.size ≤ 1048576) = true := by simp; omega
      go_enter Tryf.func3, Tryf.ntmps3
      go_wp2_with (go_at_call 5; refine (bytes5_any _ _ (by unfold maxLen; omega)).mono ?_; rintro e w' ⟨rfl, rfl⟩)
      go_ret
      exact ⟨rfl, Below.refl _ _⟩
    · have h20 : decide (id.size ≤ 1048576) = false := by simp; omega
      go_enter Tryf.func3, Tryf.ntmps3
      go_wp2_with (go_at_call 5; refine (bytes5_any _ _ (by unfold maxLen; omega)).mono ?_; rintro e w' ⟨rfl, rfl⟩)
      go_ret
      exact ⟨rfl, Below.refl _ _⟩

end Go.Proofs.Qxb6609533aFmt
