/- What comes back of a cell is as the cell. -/
import Derived.Test.YtdpkjhohklfieaaGreatSa
set_option linter.unusedSimpArgs false
set_option linter.unusedVariables false
namespace Go.Proofs.YtdpkjhohklfieaaGreat
open Go.RowKit
set_option maxRecDepth 100000

theorem agr_of {x : Fv} (h : x.Cell) (h6 : x.k ≠ 6) : Agr x.of.dr x := by
  have ho := h.1
  have hs := h.2.2.2.1
  have hok := Fv.of_ok x ho h6
  refine ⟨ho, ?_⟩
  obtain ⟨k, n, d, s⟩ := x
  rcases ho with (h | h | h | h) | ⟨h, _⟩ | ⟨h, h01⟩
  · simp only at h; subst h
    have : s = ⟨#[]⟩ := hs (.inl rfl)
    subst this
    rw [Fv.of_eqE _ _ _ _ (by simp)]
    exact ⟨rfl, rfl, by show (FloatKind.f64.format.order 0 0 != some .eq) = false; decide +kernel⟩
  · simp only at h; subst h
    rw [Fv.of_eqE _ _ _ _ (by simp)]
    exact ⟨rfl, rfl, by show (FloatKind.f64.format.order 0 0 != some .eq) = false; decide +kernel⟩
  · simp only at h; subst h
    rw [Fv.of_eqE _ _ _ _ (by simp)]
    exact ⟨rfl, rfl, by show (FloatKind.f64.format.order 0 0 != some .eq) = false; decide +kernel⟩
  · exact absurd h h6
  · simp only at h; subst h
    have : s = ⟨#[]⟩ := hs (.inr (.inl rfl))
    subst this
    rw [Fv.of_eq1] at hok ⊢
    refine ⟨rfl, rfl, ?_⟩
    show (Ieee.double.order (Fl.clean (Fl.nb n d)) (Fl.nb n d) != some .eq) = false
    have hnum : Fl.Num (Fl.nb n d) := by
      rcases hok with h | ⟨_, h⟩ | h | ⟨h, _⟩ | h
      · exact absurd h (by show ¬ (1 : Int) = 0; decide)
      · exact h
      · exact absurd h (by show ¬ (1 : Int) = 2; decide)
      · exact absurd h (by show ¬ (1 : Int) = 3; decide)
      · exact absurd h (by show ¬ (1 : Int) = 4; decide)
    rw [Fl.clean_order _ hnum]
    rfl
  · simp only at h; subst h
    have : s = ⟨#[]⟩ := hs (.inr (.inr rfl))
    subst this
    rw [Fv.of_eq3]
    refine ⟨rfl, rfl, ?_⟩
    rcases h01 with h | h
    · simp only at h; subst h
      show (FloatKind.f64.format.order (floatOfInt .f64 0) (floatOfInt .f64 0) != some .eq) = false
      decide +kernel
    · simp only at h; subst h
      show (FloatKind.f64.format.order (floatOfInt .f64 1) (floatOfInt .f64 1) != some .eq) = false
      decide +kernel

end Go.Proofs.YtdpkjhohklfieaaGreat
