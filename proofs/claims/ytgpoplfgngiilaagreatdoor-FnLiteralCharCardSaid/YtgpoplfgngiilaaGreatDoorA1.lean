/- Contracts of small functions of strconv on the road of a character literal. -/
import Derived.Test.YtgpoplfgngiilaaGreatDoorProg
import Derived.WalkKit
import Derived.WalkSpells
import Derived.WalkLawsBesides
namespace Go.Proofs.YtgpoplfgngiilaaGreatDoor
open Go.RowKit

set_option maxHeartbeats 400000 in
theorem unhex_low (b : Int) (w : World) (h0 : 48 ≤ b) (h1 : b ≤ 57) :
    Calls Tryz.prog 76 #[.int .u8 b] w fun e w' => e = .returned (.tuple #[.int .i32 (b - 48), .bool true]) ∧ w = w' := by
  go_enter Tryz.func76, Tryz.ntmps76
  go_wp2
  go_ret2
  exact ⟨rfl, rfl⟩

set_option maxHeartbeats 400000 in
theorem unhex_high (b : Int) (w : World) (h0 : 97 ≤ b) (h1 : b ≤ 102) :
    Calls Tryz.prog 76 #[.int .u8 b] w fun e w' => e = .returned (.tuple #[.int .i32 (b - 97 + 10), .bool true]) ∧ w = w' := by
  go_enter Tryz.func76, Tryz.ntmps76
  go_wp2
  go_ret2
  exact ⟨rfl, rfl⟩

set_option maxHeartbeats 400000 in
theorem validRune_yes (r : Int) (w : World) (h0 : 0 ≤ r) (h1 : r < 55296 ∨ (57343 < r ∧ r ≤ 1114111)) :
    Calls Tryz.prog 77 #[.int .i32 r] w fun e w' => e = .returned (.bool true) ∧ w = w' := by
  rcases h1 with h1 | ⟨h1, h2⟩
  · go_enter Tryz.func77, Tryz.ntmps77
    go_wp2
    go_ret
    exact ⟨rfl, rfl⟩
  · go_enter Tryz.func77, Tryz.ntmps77
    go_wp2
    go_ret
    exact ⟨rfl, rfl⟩
end Go.Proofs.YtgpoplfgngiilaaGreatDoor
