/-
  'the type is spliced in once': the walk.
-/
import Derived.Test.Qxb6001317aHeld
import Derived.Test.Qxb6001317aFix
namespace Go.Proofs.Qxb6001317a
open Go.RowKit

theorem hd_size : hd.size = 63 := rfl
theorem add_list (a b : ByteArray) : (a ++ b).data.toList = a.data.toList ++ b.data.toList := by simp
theorem cut_list (s : ByteArray) (i j : Nat) : (s.extract i j).data.toList = (s.data.toList.drop i).take (j - i) := by
  rw [ByteArray.data_extract, Array.toList_extract, List.extract_eq_take_drop]

/-- The word that is sought. -/
def sel : ByteArray := ⟨#[83, 69, 76, 69, 67, 84, 32]⟩
theorem sel_size : sel.size = 7 := rfl

theorem hd_no : ∀ i, i < 56 → ¬ (hd.data.toList.drop i).take 7 = sel.data.toList := by decide +kernel
theorem hd_yes : (hd.data.toList.drop 56).take 7 = sel.data.toList := by decide +kernel
theorem hd_len : hd.data.toList.length = 63 := by decide +kernel

theorem window (l r : List UInt8) (i : Nat) (h : i + 7 ≤ l.length) : ((l ++ r).drop i).take 7 = (l.drop i).take 7 := by
  rw [List.drop_append_of_le_length (by omega), List.take_append_of_le_length (by rw [List.length_drop]; omega)]

theorem sel_yes (t B : ByteArray) : atB (hd ++ t ++ B) sel 56 = true := by
  unfold atB
  rw [decide_eq_true_eq, sel_size, add_list, add_list, List.append_assoc, window _ _ _ (by rw [hd_len]; omega)]
  exact hd_yes
theorem sel_no (t B : ByteArray) (i : Nat) (hi : i < 56) : atB (hd ++ t ++ B) sel i = false := by
  unfold atB
  rw [decide_eq_false_iff_not, sel_size, add_list, add_list, List.append_assoc, window _ _ _ (by rw [hd_len]; omega)]
  exact hd_no i hi

theorem all_size (t B : ByteArray) : (hd ++ t ++ B).size = 63 + t.size + B.size := by rw [ByteArray.size_append, ByteArray.size_append, hd_size]

theorem beq_of {a b : ByteArray} (h : a.data.toList = b.data.toList) : (a.toList == b.toList) = true := by
  rw [ByteArray.toList_eq, ByteArray.toList_eq, h]
  simp

theorem cut_head (t B : ByteArray) : ((hd ++ t ++ B).extract 0 63).data.toList = hd.data.toList := by
  rw [cut_list, add_list, add_list, List.append_assoc, List.drop_zero, Nat.sub_zero, ← hd_len, List.take_left]
theorem cut_mid (t B : ByteArray) : ((hd ++ t ++ B).extract 63 (63 + t.size)).data.toList = t.data.toList := by
  rw [cut_list, add_list, add_list, List.append_assoc, ← hd_len, List.drop_left, Nat.add_sub_cancel_left, ← len_eq t, List.take_left]
theorem cut_tail (t B : ByteArray) : ((hd ++ t ++ B).extract (63 + t.size) (hd ++ t ++ B).size).data.toList = B.data.toList := by
  rw [cut_list, all_size, add_list, add_list]
  have h : (hd.data.toList ++ t.data.toList).length = 63 + t.size := by rw [List.length_append, hd_len, len_eq]
  rw [← h, List.drop_left, List.take_of_length_le (by rw [len_eq]; omega)]

set_option maxHeartbeats 400000 in
theorem zzheld_ex : ∃ B : ByteArray, B.size ≤ 2000 ∧ ∀ (t : ByteArray) (w : World), t.size ≤ 1048576 →
    Calls Try.prog 14 #[.string t] w fun e w' => e = .returned (.string (hd ++ t ++ B)) ∧ w' = w := by
  obtain ⟨B, hB, h⟩ := held_ex
  refine ⟨B, hB, fun t w hs => ?_⟩
  have hc := fun W => h t W hs
  clear h
  go_enter Try.func14, Try.ntmps14
  go_wp2_with (go_at_call 19; refine (hc _).mono ?_; rintro e w' ⟨rfl, rfl⟩)
  go_ret
  exact ⟨rfl, rfl⟩

theorem grown_drewN {W w' : World} (h : Grown W w') (n : Nat) : Grown W (w'.drewN n) := h

set_option maxHeartbeats 400000 in
theorem bytes13 (t : ByteArray) (w : World) (ht : t.size ≤ 1048576) : Calls Try.prog 13 #[.string t] w fun e w' => e = .returned (.bool true) ∧ w' = w := by
  go_enter Try.func13, Try.ntmps13
  go_wp2
  go_ret
  exact ⟨rfl, rfl⟩

set_option maxHeartbeats 1000000 in
theorem splice_walk (t : ByteArray) (w0 : t.size ≤ maxLen) (w : World) :
    Calls Try.prog 5 #[.string t] w fun e w' => e = .returned (.bool true) ∧ Grown w w' := by
  unfold maxLen at w0
  by_cases ht : t.size ≤ 1048576
  · obtain ⟨B, hB, hH⟩ := zzheld_ex
    have hE := fun W => hH ⟨#[]⟩ W (by decide)
    have hT := fun W => hH t W ht
    clear hH
    have f1 := beq_of ((cut_head t B).trans (cut_head ⟨#[]⟩ B).symm)
    have f2 := beq_of (cut_mid t B)
    have f3 := beq_of ((cut_tail t B).trans (cut_tail ⟨#[]⟩ B).symm)
    have s1 := all_size t B
    have s2 := all_size ⟨#[]⟩ B
    have s3 : (⟨#[]⟩ : ByteArray).size = 0 := rfl
    rw [s3] at s2 f3
    simp only [Nat.add_zero] at s2 f3
    have hI := fun W => index_any (hd ++ ⟨#[]⟩ ++ B) sel 56 W (by omega) (by decide) (by decide) (by rw [s2, sel_size]; omega) (sel_yes _ _) (fun i hi => sel_no _ _ i hi)
    generalize hd ++ ⟨#[]⟩ ++ B = E at hE hI f1 f3 s2
    generalize hd ++ t ++ B = S at hT f1 f2 f3 s1
    unfold sel at hI
    have HS1 : Hid (S.size = 63 + t.size + B.size) := s1
    have HS2 : Hid (E.size = 63 + B.size) := s2
    have b1 : (63 : Int) + (t.size : Int) ≤ (S.size : Int) := by omega
    have b2 : (63 : Int) ≤ (E.size : Int) := by omega
    have b3 : S.size ≤ 2000000 := by omega
    have b4 : E.size ≤ 3000 := by omega
    have b5 : (63 : Int) ≤ (S.size : Int) := by omega
    have b6 : (S.size : Int) = (E.size : Int) + (t.size : Int) := by omega
    have HB6 : Hid ((S.size : Int) = (E.size : Int) + (t.size : Int)) := b6
    have b7 : ((S.size : Int) != (E.size : Int) + (t.size : Int)) = false := by simp [b6]
    clear s1 s2 s3 b6
    go_enter Try.func5, Try.ntmps5
    go_wp2_with fail
    refine (bytes13 t w ht).mono ?_
    rintro e w' ⟨rfl, rfl⟩
    go_wp2_with fail
    refine (hE _).mono ?_
    rintro e w' ⟨rfl, rfl⟩
    go_wp2_with fail
    refine (hI _).mono ?_
    rintro e w' ⟨rfl, n, rfl⟩
    go_wp2_with fail
    refine (hT _).mono ?_
    rintro e w' ⟨rfl, rfl⟩
    clear hE hI hT
    go_wp2_with fail
    go_quiet (fail)
    go_wp2
    go_ret
    exact ⟨rfl, grown_drewN (grown_drewN (Grown.refl _) _) _⟩
  · go_enter Try.func5, Try.ntmps5
    go_wp2
    go_ret
    exact ⟨rfl, Grown.refl _⟩
end Go.Proofs.Qxb6001317a
