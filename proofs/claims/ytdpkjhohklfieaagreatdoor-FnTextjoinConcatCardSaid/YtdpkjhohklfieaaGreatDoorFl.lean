/- Plain facts about the bits of float64: a number that a conversion or a division by a small power of two gives is no NaN and equals itself. No program in sight. -/
import Derived.Laws.FloatArith
set_option linter.unusedSimpArgs false
set_option linter.unusedVariables false
namespace Go.Proofs.YtdpkjhohklfieaaGreatDoor
namespace Fl
open Ieee

/-- The bits of a float64 that is no NaN. -/
def Num (b : Nat) : Prop := (double.read b).isNaN = false

theorem read_word (neg : Bool) (r : Nat) (h : r < double.signWeight) :
    double.read (double.word neg r) = if r < double.binade then .number neg r double.leastPlace
      else if r < double.infRung then .number neg (double.binade + r % double.binade) (double.leastPlace + (r / double.binade - 1 : Nat))
      else if r = double.infRung then .infinity neg else .nan neg (r - double.infRung) := by
  have e1 : (double.word neg r / double.signWeight % 2 == 1) = neg := by
    cases neg
    · have : double.word false r / double.signWeight = 0 := Nat.div_eq_of_lt (by simpa [Format.word] using h)
      rw [this]; rfl
    · have : double.word true r / double.signWeight = 1 := by
        have hp : 0 < double.signWeight := by decide
        show (double.signWeight + r) / double.signWeight = 1
        rw [Nat.add_comm, Nat.add_div_right _ hp, Nat.div_eq_of_lt h]
      rw [this]; rfl
  have e2 : double.word neg r % double.signWeight = r := by
    cases neg
    · exact Nat.mod_eq_of_lt h
    · show (double.signWeight + r) % double.signWeight = r
      rw [Nat.add_mod_left]; exact Nat.mod_eq_of_lt h
  unfold Format.read
  simp only [e1, e2]

theorem inf_lt : double.infRung < double.signWeight := by decide +kernel

theorem word_num (neg : Bool) (r : Nat) (h : r ≤ double.infRung) : Num (double.word neg r) := by
  have := inf_lt
  unfold Num
  rw [read_word neg r (by omega)]
  split
  · rfl
  · split
    · rfl
    · split
      · rfl
      · omega

theorem nearest_num (neg : Bool) (mag : Nat) (place : Int) : Num (double.nearest neg mag place) := by
  unfold Format.nearest
  split
  · exact word_num neg 0 (Nat.zero_le _)
  · exact word_num neg _ (Nat.min_le_right _ _)

theorem ofInt_num (n : Int) : Num (floatOfInt .f64 n) := nearest_num _ _ _

theorem order_self (b : Nat) (h : Num b) : double.order b b = some .eq := by
  unfold Format.order
  unfold Num at h
  cases hd : double.read b with
  | number s m i => simp [Datum.order, compare, compareOfLessAndEq]
  | infinity s => cases s <;> simp [Datum.order] <;> decide
  | nan s f => rw [hd] at h; cases h

/-- The divisors that occur: they read as a number that is not nought. -/
theorem den_read : ∀ d ∈ [(1 : Int), 2, 4, 8, 16], ∃ m i, double.read (floatOfInt .f64 d) = .number false m i ∧ m ≠ 0 := by
  intro d hd
  simp only [List.mem_cons, List.not_mem_nil, or_false] at hd
  rcases hd with rfl | rfl | rfl | rfl | rfl
  · exact ⟨4503599627370496, -52, by decide +kernel, by decide⟩
  · exact ⟨4503599627370496, -51, by decide +kernel, by decide⟩
  · exact ⟨4503599627370496, -50, by decide +kernel, by decide⟩
  · exact ⟨4503599627370496, -49, by decide +kernel, by decide⟩
  · exact ⟨4503599627370496, -48, by decide +kernel, by decide⟩

theorem div_num (x : Nat) (hx : Num x) (d : Int) (hd : d ∈ [(1 : Int), 2, 4, 8, 16]) :
    ∃ r, floatBits .quo .f64 x (floatOfInt .f64 d) = some r ∧ Num r := by
  obtain ⟨m, i, he, hm⟩ := den_read d hd
  unfold Num at hx
  show ∃ r, double.div x (floatOfInt .f64 d) = some r ∧ Num r
  unfold Format.div
  rw [he]
  cases hr : double.read x with
  | number s n j => simp only [Datum.quotient, if_neg hm, Option.map_some]; exact ⟨_, rfl, nearest_num _ _ _⟩
  | infinity s => simp only [Datum.quotient, Option.map_some]; exact ⟨_, rfl, word_num _ _ (Nat.le_refl _)⟩
  | nan s f => rw [hr] at hx; cases hx

/-- The bits of 'float64(n) / float64(d)'. -/
def nb (n d : Int) : Nat := (floatBits .quo .f64 (floatOfInt .f64 n) (floatOfInt .f64 d)).getD 0

theorem nb_bits (n d : Int) (hd : d ∈ [(1 : Int), 2, 4, 8, 16]) : floatBits .quo .f64 (floatOfInt .f64 n) (floatOfInt .f64 d) = some (nb n d) := by
  obtain ⟨r, h, _⟩ := div_num _ (ofInt_num n) d hd
  unfold nb
  rw [h]; rfl

theorem nb_num (n d : Int) (hd : d ∈ [(1 : Int), 2, 4, 8, 16]) : Num (nb n d) := by
  obtain ⟨r, h, hn⟩ := div_num _ (ofInt_num n) d hd
  unfold nb
  rw [h]; exact hn

/-- 'if n == 0 { n = 0 }': what the program makes of a number. -/
def clean (b : Nat) : Nat := if double.order b 0 == some .eq then 0 else b

theorem zero_bits : floatOfInt .f64 0 = 0 := by decide +kernel
theorem one_bits : floatOfInt .f64 1 = 4607182418800017408 := by decide +kernel

theorem read_zero : double.read 0 = .number false 0 double.leastPlace := by decide +kernel

theorem compare_eq (a b : Int) (h : compare a b = .eq) : a = b := Std.LawfulEqCmp.eq_of_compare h

theorem order_zero_symm (b : Nat) (h : double.order b 0 = some .eq) : double.order 0 b = some .eq := by
  unfold Format.order at h ⊢
  rw [read_zero] at h ⊢
  cases hd : double.read b with
  | number s m i =>
    rw [hd] at h
    simp only [Datum.order, Option.some.injEq] at h ⊢
    rw [Int.min_comm i] at h
    rw [compare_eq _ _ h]
    exact Std.ReflCmp.compare_self
  | infinity s => rw [hd] at h; cases s <;> cases h
  | nan s f => rw [hd] at h; cases h

theorem clean_num (b : Nat) (h : Num b) : Num (clean b) := by
  unfold clean
  split
  · exact zero_bits ▸ ofInt_num 0
  · exact h

theorem clean_order (b : Nat) (h : Num b) : double.order (clean b) b = some .eq := by
  unfold clean
  split
  · rename_i hc; exact order_zero_symm b (by simpa using hc)
  · exact order_self b h

end Fl
end Go.Proofs.YtdpkjhohklfieaaGreatDoor
