/-
  'two types give the same query just where they are the same text': the walk.
-/
import Derived.Test.Qxb6001317aRows
import Derived.WalkKit
import Derived.WalkSpells
import Derived.WalkLawsBesides
namespace Go.Proofs.Qxb6001317a
open Go.RowKit

theorem ret_bool_i {a b : Bool} (h : a = b) : Ending.returned (.bool a) = .returned (.bool b) := by rw [h]
theorem inj_law (A B a b : ByteArray) : (((A ++ a ++ B).toList == (A ++ b ++ B).toList) == (a.toList == b.toList)) = true := by
  have e : ∀ x : ByteArray, (A ++ x ++ B).toList = A.toList ++ x.toList ++ B.toList := fun x => by
    rw [ByteArray.toList_eq, ByteArray.toList_eq, ByteArray.toList_eq, ByteArray.toList_eq]
    simp
  rw [e, e]
  have h : (A.toList ++ a.toList ++ B.toList == A.toList ++ b.toList ++ B.toList) = (a.toList == b.toList) := by
    rw [Bool.eq_iff_iff]
    simp
  rw [h]
  simp

set_option maxRecDepth 10000 in
set_option maxHeartbeats 1000000 in
theorem inj_walk (a b : ByteArray) (w0 : a.size ≤ maxLen) (w1 : b.size ≤ maxLen) (w : World) :
    Calls Try.prog 6 #[.string a, .string b] w fun e w' => e = .returned (.bool true) ∧ Grown w w' := by
  unfold maxLen at w0 w1
  by_cases ha : a.size ≤ 524288
  · by_cases hb : b.size ≤ 524288
    · go_enter Try.func6, Try.ntmps6
      go_wp2
      go_ret
      exact ⟨ret_bool_i (inj_law _ _ _ _), Grown.refl _⟩
    · go_enter Try.func6, Try.ntmps6
      go_wp2
      all_goals
        go_ret
        exact ⟨rfl, Grown.refl _⟩
  · go_enter Try.func6, Try.ntmps6
    go_wp2
    all_goals
      go_ret
      exact ⟨rfl, Grown.refl _⟩
end Go.Proofs.Qxb6001317a
