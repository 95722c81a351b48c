/- Single values of the reference as those of the program and back: of, out, same; lists of them: all, in. -/
import Derived.Test.YtdpkjhohklfieaaGreatDoorN
set_option linter.unusedSimpArgs false
set_option linter.unusedVariables false
namespace Go.Proofs.YtdpkjhohklfieaaGreatDoor
open Go.RowKit
set_option maxRecDepth 100000

/-- A single value of the reference: kind, number, denominator, text. -/
structure Fv where
  k : Int
  n : Int
  d : Int
  s : ByteArray
def Fv.cells (x : Fv) : List Value := [.int .i64 x.k, .int .i64 x.n, .int .i64 x.d, .string x.s, .slice none 0 0]
def dens : List Int := [1, 2, 4, 8, 16]
/-- The single values that come: a number within bounds over a small power of two; a truth is 1 or 0. -/
def Fv.Ok (x : Fv) : Prop := (x.k = 0 ∨ x.k = 2 ∨ x.k = 4 ∨ x.k = 6) ∨ (x.k = 1 ∧ -99999999999 ≤ x.n ∧ x.n ≤ 99999999999 ∧ x.d ∈ dens) ∨ (x.k = 3 ∧ (x.n = 0 ∨ x.n = 1))
/-- 'of' of a single value. -/
def Fv.of (x : Fv) : Gl := ⟨x.k, if x.k = 1 then Fl.nb x.n x.d else if x.k = 3 then floatOfInt .f64 x.n else 0, x.s⟩

theorem Fv.of_eq1 (n d : Int) (s : ByteArray) : (⟨1, n, d, s⟩ : Fv).of = ⟨1, Fl.nb n d, s⟩ := by simp [Fv.of]
theorem Fv.of_eq3 (n d : Int) (s : ByteArray) : (⟨3, n, d, s⟩ : Fv).of = ⟨3, floatOfInt .f64 n, s⟩ := by simp [Fv.of]
theorem Fv.of_eqE (k n d : Int) (s : ByteArray) (h : k = 0 ∨ k = 2 ∨ k = 4 ∨ k = 6) : (⟨k, n, d, s⟩ : Fv).of = ⟨k, 0, s⟩ := by
  rcases h with rfl | rfl | rfl | rfl <;> simp [Fv.of]

theorem Fv.of_ok (x : Fv) (h : x.Ok) (h6 : x.k ≠ 6) : x.of.Ok := by
  obtain ⟨k, n, d, s⟩ := x
  rcases h with h | ⟨h, _, _, hd⟩ | ⟨h, h3⟩
  · rw [Fv.of_eqE k n d s h]
    simp only at h h6
    rcases h with rfl | rfl | rfl | rfl
    · exact .inl rfl
    · exact .inr (.inr (.inl rfl))
    · exact .inr (.inr (.inr (.inr rfl)))
    · exact absurd rfl h6
  · change k = 1 at h; subst h
    rw [Fv.of_eq1]
    exact .inr (.inl ⟨rfl, Fl.nb_num n d hd⟩)
  · change k = 3 at h; subst h
    rw [Fv.of_eq3]
    refine .inr (.inr (.inr (.inl ⟨rfl, ?_⟩)))
    rcases h3 with h3 | h3
    · simp only at h3; subst h3; exact ⟨false, Fl.zero_bits⟩
    · simp only at h3; subst h3; exact ⟨true, Fl.one_bits⟩

theorem of_1 (n d : Int) (s : ByteArray) (hd : d ∈ dens) (w : World) :
    Calls Tryz.prog 25 #[(.agg #[.int .i64 1, .int .i64 n, .int .i64 d, .string s, .slice none 0 0])] w fun e w' => e = .returned (.agg #[.int .i64 1, .float .f64 (Fl.nb n d), .string s, .slice none 0 0]) ∧ Below w.heap.size w w' := by
  have hdiv := fun wx => run_float_arith (P := Tryz.prog) wx .quo 36 .f64 _ _ _ (Fl.nb_bits n d hd)
  go_enter Tryz.func25, Tryz.ntmps25
  go_wp2
  exact bodyPost_ret (v := (.agg #[.int .i64 1, .float .f64 (Fl.nb n d), .string s, .slice none 0 0])) (by simp [results, Tryz.results25, go_sem]) rfl ⟨rfl, (by (repeat' (first | with_reducible exact Below.refl _ _ | with_reducible refine Below.setCell ?_ ?_ _ | with_reducible refine Below.alloc ?_ ?_ _ | with_reducible refine Below.drew ?_ | with_reducible refine Below.trans ?_ (Below.mono (by assumption) ?_))); all_goals (first | omega | (simp [World.setCell]; done) | (simp [World.setCell]; omega)))⟩

theorem of_3 (n d : Int) (s : ByteArray) (w : World) :
    Calls Tryz.prog 25 #[(.agg #[.int .i64 3, .int .i64 n, .int .i64 d, .string s, .slice none 0 0])] w fun e w' => e = .returned (.agg #[.int .i64 3, .float .f64 (floatOfInt .f64 n), .string s, .slice none 0 0]) ∧ Below w.heap.size w w' := by
  go_enter Tryz.func25, Tryz.ntmps25
  go_wp2
  exact bodyPost_ret (v := (.agg #[.int .i64 3, .float .f64 (floatOfInt .f64 n), .string s, .slice none 0 0])) (by simp [results, Tryz.results25, go_sem]) rfl ⟨rfl, (by (repeat' (first | with_reducible exact Below.refl _ _ | with_reducible refine Below.setCell ?_ ?_ _ | with_reducible refine Below.alloc ?_ ?_ _ | with_reducible refine Below.drew ?_ | with_reducible refine Below.trans ?_ (Below.mono (by assumption) ?_))); all_goals (first | omega | (simp [World.setCell]; done) | (simp [World.setCell]; omega)))⟩

theorem of_else (k n d : Int) (s : ByteArray) (hk : k = 0 ∨ k = 2 ∨ k = 4 ∨ k = 6) (w : World) :
    Calls Tryz.prog 25 #[(.agg #[.int .i64 k, .int .i64 n, .int .i64 d, .string s, .slice none 0 0])] w fun e w' => e = .returned (.agg #[.int .i64 k, .float .f64 0, .string s, .slice none 0 0]) ∧ Below w.heap.size w w' := by
  have h1 : (k == 1) = false := by rw [beq_eq_false_iff_ne]; omega
  have h3 : (k == 3) = false := by rw [beq_eq_false_iff_ne]; omega
  have h5 : (k == 5) = false := by rw [beq_eq_false_iff_ne]; omega
  clear hk
  go_enter Tryz.func25, Tryz.ntmps25
  go_wp2
  exact bodyPost_ret (v := (.agg #[.int .i64 k, .float .f64 0, .string s, .slice none 0 0])) (by simp [results, Tryz.results25, go_sem]) rfl ⟨rfl, (by (repeat' (first | with_reducible exact Below.refl _ _ | with_reducible refine Below.setCell ?_ ?_ _ | with_reducible refine Below.alloc ?_ ?_ _ | with_reducible refine Below.drew ?_ | with_reducible refine Below.trans ?_ (Below.mono (by assumption) ?_))); all_goals (first | omega | (simp [World.setCell]; done) | (simp [World.setCell]; omega)))⟩

theorem of_flat (x : Fv) (hx : x.Ok) (w : World) :
    Calls Tryz.prog 25 #[(.agg #[.int .i64 x.k, .int .i64 x.n, .int .i64 x.d, .string x.s, .slice none 0 0])] w fun e w' => e = .returned (.agg #[.int .i64 x.of.k, .float .f64 x.of.x, .string x.of.s, .slice none 0 0]) ∧ Below w.heap.size w w' := by
  obtain ⟨k, n, d, s⟩ := x
  rcases hx with h | ⟨h, _, _, hd⟩ | ⟨h, h3⟩
  · rw [Fv.of_eqE k n d s h]
    exact of_else k n d s h w
  · change k = 1 at h; subst h
    rw [Fv.of_eq1]
    exact of_1 n d s hd w
  · change k = 3 at h; subst h
    rw [Fv.of_eq3]
    exact of_3 n d s w

theorem out_flat (k : Int) (x : Nat) (s : ByteArray) (w : World) :
    Calls Tryz.prog 20 #[(.agg #[.int .i64 k, .float .f64 x, .string s, .slice none 0 0])] w fun e w' => e = .returned (.agg #[.int .i64 k, .float .f64 x, .string s, .slice none 0 0]) ∧ Below w.heap.size w w' := by
  go_enter Tryz.func20, Tryz.ntmps20
  go_wp2_with fail
  refine wp_loop_rounds 1 ?_
  rw [rounds_succ]
  go_wp2
  exact bodyPost_ret (v := (.agg #[.int .i64 k, .float .f64 x, .string s, .slice none 0 0])) (by simp [results, Tryz.results20, go_sem]) rfl ⟨rfl, (by (repeat' (first | with_reducible exact Below.refl _ _ | with_reducible refine Below.setCell ?_ ?_ _ | with_reducible refine Below.alloc ?_ ?_ _ | with_reducible refine Below.drew ?_ | with_reducible refine Below.trans ?_ (Below.mono (by assumption) ?_))); all_goals (first | omega | (simp [World.setCell]; done) | (simp [World.setCell]; omega)))⟩

end Go.Proofs.YtdpkjhohklfieaaGreatDoor
