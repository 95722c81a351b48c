/- Digits, Plain, numeric: whether a value may be taken as a number. -/
import Derived.Test.YtdpkjhohklfieaaGreatDoorX
set_option linter.unusedSimpArgs false
set_option linter.unusedVariables false
namespace Go.Proofs.YtdpkjhohklfieaaGreatDoor
open Go.RowKit
set_option maxRecDepth 100000

theorem ret_int {k : IntKind} {a b : Int} (h : a = b) : Ending.returned (.int k a) = .returned (.int k b) := by rw [h]
theorem below_drewN (w : World) (n : Nat) : Below w.heap.size w (w.drewN n) := ⟨rfl, rfl, rfl, Nat.le_refl _, fun _ _ => rfl⟩

/-- One digit; so many digits of a number; a whole number as it is written. -/
def digB (n : Int) : ByteArray := ByteArray.extract { data := #[48, 49, 50, 51, 52, 53, 54, 55, 56, 57, 65, 66, 67, 68, 69, 70, 71, 72, 73, 74, 75, 76, 77, 78, 79, 80, 81, 82, 83, 84, 85, 86, 87, 88, 89, 90] } (n % 10).toNat (n % 10 + 1).toNat
def digsB : Nat → Int → ByteArray
  | 0, n => digB n
  | k + 1, n => if n < 10 then digB n else digsB k (n / 10) ++ digB n
def plainB (n : Int) : ByteArray := if n < 0 then (⟨#[45]⟩ : ByteArray) ++ digsB 11 (-n) else ⟨#[]⟩ ++ digsB 11 n

theorem digB_size (n : Int) (h : 0 ≤ n) : (digB n).size ≤ 1 := by
  unfold digB
  rw [ByteArray.size_extract]
  omega
theorem digsB_size (k : Nat) : ∀ n : Int, 0 ≤ n → (digsB k n).size ≤ k + 1 := by
  induction k with
  | zero => intro n h; exact digB_size n h
  | succ k ih =>
    intro n h
    unfold digsB
    split
    · have := digB_size n h; omega
    · rw [ByteArray.size_append]
      have := digB_size n h
      have := ih (n / 10) (by omega)
      omega

end Go.Proofs.YtdpkjhohklfieaaGreatDoor
