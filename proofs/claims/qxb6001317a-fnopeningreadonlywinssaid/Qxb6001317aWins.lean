/-
  'read only wins': the walk.
-/
import Derived.Test.Qxb6001317aRows
import Derived.WalkKit
import Derived.WalkSpells
import Derived.WalkLawsBesides
namespace Go.Proofs.Qxb6001317a
open Go.RowKit

theorem ret_bool {a b : Bool} (h : a = b) : Ending.returned (.bool a) = .returned (.bool b) := by rw [h]
theorem size_list (s : ByteArray) : s.toList.length = s.size := by rw [ByteArray.toList_eq, Array.length_toList]; rfl
theorem ne_of_size {a b : ByteArray} (h : a.size ≠ b.size) : ¬ a.toList = b.toList := fun e => h (by rw [← size_list a, ← size_list b, e])

theorem size3 (b a e : ByteArray) : (b ++ a ++ e).size = b.size + a.size + e.size := by rw [ByteArray.size_append, ByteArray.size_append]
theorem neq_true {a b : ByteArray} (h : ¬ a.toList = b.toList) : (!(a.toList == b.toList)) = true := by simp [h]
theorem and3 {a b c : Bool} (ha : a = true) (hb : b = true) (hc : c = true) : (a && b && c) = true := by rw [ha, hb, hc]; rfl
theorem sz5 : (⟨#[66, 69, 71, 73, 78]⟩ : ByteArray).size = 5 := rfl
theorem sz10 : (⟨#[32, 82, 69, 65, 68, 32, 79, 78, 76, 89]⟩ : ByteArray).size = 10 := rfl
theorem sz11 : (⟨#[32, 82, 69, 65, 68, 32, 87, 82, 73, 84, 69]⟩ : ByteArray).size = 11 := rfl

set_option maxHeartbeats 400000 in
theorem wins_walk (a0 : ByteArray) (a1 : Bool) (w0 : a0.size ≤ maxLen) (w : World) :
    Calls Try.prog 4 #[.string a0, .bool a1] w fun e w' => e = .returned (.bool true) ∧ Grown w w' := by
  unfold maxLen at w0
  by_cases hs : a0.size ≤ 1048576
  · have n1 : ¬ ((⟨#[66, 69, 71, 73, 78]⟩ : ByteArray) ++ a0 ++ ⟨#[32, 82, 69, 65, 68, 32, 79, 78, 76, 89]⟩).toList = ((⟨#[66, 69, 71, 73, 78]⟩ : ByteArray) ++ a0 ++ ⟨#[32, 82, 69, 65, 68, 32, 87, 82, 73, 84, 69]⟩).toList :=
      ne_of_size (by rw [size3, size3, sz10, sz11]; omega)
    have n2 : ¬ ((⟨#[66, 69, 71, 73, 78]⟩ : ByteArray) ++ a0 ++ ⟨#[32, 82, 69, 65, 68, 32, 79, 78, 76, 89]⟩).toList = ((⟨#[66, 69, 71, 73, 78]⟩ : ByteArray) ++ a0).toList :=
      ne_of_size (by rw [size3, ByteArray.size_append, sz10]; omega)
    have n3 : ¬ ((⟨#[66, 69, 71, 73, 78]⟩ : ByteArray) ++ a0 ++ ⟨#[32, 82, 69, 65, 68, 32, 87, 82, 73, 84, 69]⟩).toList = ((⟨#[66, 69, 71, 73, 78]⟩ : ByteArray) ++ a0).toList :=
      ne_of_size (by rw [size3, ByteArray.size_append, sz11]; omega)
    cases a1
    all_goals
      go_enter Try.func4, Try.ntmps4
      go_wp2
      go_ret
      exact ⟨ret_bool (and3 (neq_true n1) (neq_true n2) (neq_true n3)), Grown.refl _⟩
  · go_enter Try.func4, Try.ntmps4
    go_wp2
    go_ret
    exact ⟨rfl, Grown.refl _⟩
end Go.Proofs.Qxb6001317a
