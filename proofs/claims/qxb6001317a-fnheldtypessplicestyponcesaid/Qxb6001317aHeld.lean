/-
  heldTypes: a head, the type, a tail: its walk. The tail is taken as it stands in the program; nothing but its length is used.
-/
import Derived.Test.Qxb6001317aRows
import Derived.WalkKit
import Derived.WalkSpells
import Derived.WalkLawsBesides
namespace Go.Proofs.Qxb6001317a
open Go.RowKit

/-- The head, up to the type. -/
def hd : ByteArray := ⟨#[87, 73, 84, 72, 32, 82, 69, 67, 85, 82, 83, 73, 86, 69, 32, 104, 101, 108, 100, 32, 40, 111, 105, 100, 44, 32, 110, 101, 115, 116, 101, 100, 41, 32, 65, 83, 32, 40, 10, 32, 32, 32, 32, 32, 32, 32, 32, 32, 32, 32, 32, 32, 32, 32, 32, 32, 83, 69, 76, 69, 67, 84, 32]⟩

set_option maxRecDepth 10000 in
set_option maxHeartbeats 400000 in
theorem held_ex : ∃ B : ByteArray, B.size ≤ 2000 ∧ ∀ (t : ByteArray) (w : World), t.size ≤ 1048576 →
    Calls Try.prog 19 #[.string t] w fun e w' => e = .returned (.string (hd ++ t ++ B)) ∧ w' = w := by
  apply Exists.intro
  apply And.intro
  rotate_left
  · intro t w hs
    go_enter Try.func19, Try.ntmps19
    go_wp2
    go_ret
    exact ⟨rfl, rfl⟩
  · decide +kernel
end Go.Proofs.Qxb6001317a
