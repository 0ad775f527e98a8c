/-
  The walk over strconv.Itoa at one digit.
-/
import Derived.Test.YtojngchcghabiaaGreatDoorResult
namespace Go.Proofs.YtojngchcghabiaaGreatDoor
open Go Go.RowKit

/-- A text of one digit. -/
def one (d : Nat) : ByteArray := ⟨#[UInt8.ofNat (48 + d)]⟩

set_option maxRecDepth 100000 in
set_option maxHeartbeats 1000000 in
theorem itoa_any (d : Nat) (w : World) (hd : d < 10) : Calls Tryz.prog 47 #[.int .i64 d] w fun e w' => e = .returned (.string (one d)) ∧ w = w' := by
  go_enter Tryz.func47, Tryz.ntmps47
  go_wp2
  go_ret
  refine ⟨?_, rfl⟩
  have : d = 0 ∨ d = 1 ∨ d = 2 ∨ d = 3 ∨ d = 4 ∨ d = 5 ∨ d = 6 ∨ d = 7 ∨ d = 8 ∨ d = 9 := by omega
  rcases this with rfl | rfl | rfl | rfl | rfl | rfl | rfl | rfl | rfl | rfl <;> rfl
end Go.Proofs.YtojngchcghabiaaGreatDoor
