/- Read: what a text is as a number; one of the values that come. -/
import Derived.Test.YtdpkjhohklfieaaGreatDoorW
set_option linter.unusedSimpArgs false
set_option linter.unusedVariables false
namespace Go.Proofs.YtdpkjhohklfieaaGreatDoor
open Go.RowKit
set_option maxRecDepth 100000

theorem pow_le (m : Nat) (h : m ≤ 12) : (10 : Int) ^ m ≤ 1000000000000 := by
  rcases (show m = 0 ∨ m = 1 ∨ m = 2 ∨ m = 3 ∨ m = 4 ∨ m = 5 ∨ m = 6 ∨ m = 7 ∨ m = 8 ∨ m = 9 ∨ m = 10 ∨ m = 11 ∨ m = 12 by omega) with h | h | h | h | h | h | h | h | h | h | h | h | h <;> subst h <;> decide

end Go.Proofs.YtdpkjhohklfieaaGreatDoor
