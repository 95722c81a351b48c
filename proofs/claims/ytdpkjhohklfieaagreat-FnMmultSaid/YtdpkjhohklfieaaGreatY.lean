/- Digits, Plain, numeric: whether a value may be taken as a number. -/
import Derived.Test.YtdpkjhohklfieaaGreatX
set_option linter.unusedSimpArgs false
set_option linter.unusedVariables false
namespace Go.Proofs.YtdpkjhohklfieaaGreat
open Go.RowKit
set_option maxRecDepth 100000

theorem ret_int {k : IntKind} {a b : Int} (h : a = b) : Ending.returned (.int k a) = .returned (.int k b) := by rw [h]
theorem below_drewN (w : World) (n : Nat) : Below w.heap.size w (w.drewN n) := ⟨rfl, rfl, rfl, Nat.le_refl _, fun _ _ => rfl⟩

theorem abs_any (n : Int) (w : World) (h1 : -99999999999 ≤ n) (h2 : n ≤ 99999999999) :
    Calls Tryz.prog 212 #[.int .i64 n] w fun e w' => e = .returned (.int .i64 (max n (-n))) ∧ w = w' := by
  go_enter Tryz.func212, Tryz.ntmps212
  go_wp2
  all_goals
    go_ret
    exact ⟨ret_int (by omega), rfl⟩

/-- One digit; so many digits of a number; a whole number as it is written. -/
def digB (n : Int) : ByteArray := ByteArray.extract { data := #[48, 49, 50, 51, 52, 53, 54, 55, 56, 57, 65, 66, 67, 68, 69, 70, 71, 72, 73, 74, 75, 76, 77, 78, 79, 80, 81, 82, 83, 84, 85, 86, 87, 88, 89, 90] } (n % 10).toNat (n % 10 + 1).toNat
def digsB : Nat → Int → ByteArray
  | 0, n => digB n
  | k + 1, n => if n < 10 then digB n else digsB k (n / 10) ++ digB n
def plainB (n : Int) : ByteArray := if n < 0 then (⟨#[45]⟩ : ByteArray) ++ digsB 11 (-n) else ⟨#[]⟩ ++ digsB 11 n

theorem digB_size (n : Int) (h : 0 ≤ n) : (digB n).size ≤ 1 := by
  unfold digB
  rw [ByteArray.size_extract]
  omega
theorem digsB_size (k : Nat) : ∀ n : Int, 0 ≤ n → (digsB k n).size ≤ k + 1 := by
  induction k with
  | zero => intro n h; exact digB_size n h
  | succ k ih =>
    intro n h
    unfold digsB
    split
    · have := digB_size n h; omega
    · rw [ByteArray.size_append]
      have := digB_size n h
      have := ih (n / 10) (by omega)
      omega

set_option maxHeartbeats 1000000 in
theorem digits_any (k : Nat) : ∀ (n : Int) (w : World), 0 ≤ n → n ≤ 99999999999 → n < 10 ^ (k + 1) → k ≤ 30 →
    Calls Tryz.prog 176 #[.int .i64 n, .int .i64 10] w fun e w' => e = .returned (.string (digsB k n)) ∧ Below w.heap.size w w' := by
  induction k with
  | zero =>
    intro n w h0 hn h1 hk
    have hlt : n < 10 := by simpa using h1
    have m0 : 0 ≤ n % 10 := by omega
    have m1 : n % 10 < 10 := by omega
    clear h1
    go_enter Tryz.func176, Tryz.ntmps176
    go_wp2_with fail
    go_quiet (fail)
    go_wp2
    go_ret
    exact ⟨rfl, below_drewN _ _⟩
  | succ k ih =>
    intro n w h0 hn h1 hk
    have hps := Int.pow_succ 10 (k + 1)
    have hdiv : n / 10 < 10 ^ (k + 1) := by omega
    have hd0 : 0 ≤ n / 10 := by omega
    have m0 : 0 ≤ n % 10 := by omega
    have m1 : n % 10 < 10 := by omega
    have HD := Lib.hid hdiv
    have IH := Lib.hid ih
    clear ih h1 hps hdiv
    have hsz : (ByteArray.extract { data := #[48, 49, 50, 51, 52, 53, 54, 55, 56, 57, 65, 66, 67, 68, 69, 70, 71, 72, 73, 74, 75, 76, 77, 78, 79, 80, 81, 82, 83, 84, 85, 86, 87, 88, 89, 90] } (n % 10).toNat (n % 10 + 1).toNat).size ≤ 1 := digB_size n h0
    have hsz2 := digsB_size k (n / 10) hd0
    by_cases hlt : n < 10
    · have hfin : digsB (k + 1) n = digB n := by rw [digsB, if_pos hlt]
      have HF := Lib.hid hfin
      clear hfin
      go_enter Tryz.func176, Tryz.ntmps176
      go_wp2_with fail
      go_quiet (fail)
      go_wp2_with fail
      go_ret
      exact ⟨by rw [HF.out]; rfl, below_drewN _ _⟩
    · have hfin : digsB (k + 1) n = digsB k (n / 10) ++ digB n := by rw [digsB, if_neg hlt]
      have HF := Lib.hid hfin
      clear hfin
      go_enter Tryz.func176, Tryz.ntmps176
      go_wp2_with fail
      go_quiet (fail)
      go_wp2_with fail
      refine (IH.out (n / 10) _ hd0 (by omega) HD.out (by omega)).mono ?_
      rintro e w1 ⟨rfl, hb1⟩
      go_wp2_with fail
      go_ret
      exact ⟨by rw [HF.out]; rfl, (below_drewN w nq).trans hb1⟩

/-- Plain of a whole number. -/
theorem plain_any (n : Int) (s : ByteArray) (w : World) (h1 : -99999999999 ≤ n) (h2 : n ≤ 99999999999) :
    Calls Tryz.prog 211 #[(.agg #[.int .i64 1, .int .i64 n, .int .i64 1, .string s, .slice none 0 0])] w fun e w' => e = .returned (.string (plainB n)) ∧ Below w.heap.size w w' := by
  by_cases hn : n < 0
  · have hsz := digsB_size 11 (-n) (by omega)
    have hfin : plainB n = (⟨#[45]⟩ : ByteArray) ++ digsB 11 (-n) := by rw [plainB, if_pos hn]
    have HF := Lib.hid hfin
    clear hfin
    go_enter Tryz.func211, Tryz.ntmps211
    go_wp2_with fail
    refine (digits_any 11 (-n) _ (by omega) (by omega) (by omega) (by omega)).mono ?_
    rintro e w1 ⟨rfl, hb1⟩
    obtain ⟨hc1, hf1, hz1⟩ := bcell hb1
    go_wp2_with fail
    go_ret
    exact ⟨by rw [HF.out]; rfl, (by (repeat' (first | with_reducible exact Below.refl _ _ | with_reducible refine Below.setCell ?_ ?_ _ | with_reducible refine Below.alloc ?_ ?_ _ | with_reducible refine Below.drew ?_ | with_reducible refine Below.trans ?_ (Below.mono (by assumption) ?_))); all_goals (first | omega | (simp [World.setCell]; done) | (simp [World.setCell]; omega)))⟩
  · have hsz := digsB_size 11 n (by omega)
    have hfin : plainB n = (⟨#[]⟩ : ByteArray) ++ digsB 11 n := by rw [plainB, if_neg hn]
    have HF := Lib.hid hfin
    clear hfin
    go_enter Tryz.func211, Tryz.ntmps211
    go_wp2_with fail
    refine (digits_any 11 n _ (by omega) (by omega) (by omega) (by omega)).mono ?_
    rintro e w1 ⟨rfl, hb1⟩
    obtain ⟨hc1, hf1, hz1⟩ := bcell hb1
    go_wp2_with fail
    go_ret
    exact ⟨by rw [HF.out]; rfl, (by (repeat' (first | with_reducible exact Below.refl _ _ | with_reducible refine Below.setCell ?_ ?_ _ | with_reducible refine Below.alloc ?_ ?_ _ | with_reducible refine Below.drew ?_ | with_reducible refine Below.trans ?_ (Below.mono (by assumption) ?_))); all_goals (first | omega | (simp [World.setCell]; done) | (simp [World.setCell]; omega)))⟩

theorem numeric_num (k n d : Int) (s : ByteArray) (w : World) (hk : k = 1 ∨ k = 3) :
    Calls Tryz.prog 135 #[(.agg #[.int .i64 k, .int .i64 n, .int .i64 d, .string s, .slice none 0 0])] w fun e w' => e = .returned (.bool true) ∧ Below w.heap.size w w' := by
  rcases hk with rfl | rfl
  · go_enter Tryz.func135, Tryz.ntmps135
    go_wp2
    go_ret
    exact ⟨rfl, (by (repeat' (first | with_reducible exact Below.refl _ _ | with_reducible refine Below.setCell ?_ ?_ _ | with_reducible refine Below.alloc ?_ ?_ _ | with_reducible refine Below.drew ?_ | with_reducible refine Below.trans ?_ (Below.mono (by assumption) ?_))); all_goals (first | omega | (simp [World.setCell]; done) | (simp [World.setCell]; omega)))⟩
  · go_enter Tryz.func135, Tryz.ntmps135
    go_wp2
    go_ret
    exact ⟨rfl, (by (repeat' (first | with_reducible exact Below.refl _ _ | with_reducible refine Below.setCell ?_ ?_ _ | with_reducible refine Below.alloc ?_ ?_ _ | with_reducible refine Below.drew ?_ | with_reducible refine Below.trans ?_ (Below.mono (by assumption) ?_))); all_goals (first | omega | (simp [World.setCell]; done) | (simp [World.setCell]; omega)))⟩

theorem numeric_none (k n d : Int) (s : ByteArray) (A : Option Addr) (m c : Nat) (w : World) (h1 : (k == 1) = false) (h2 : (k == 2) = false) (h3 : (k == 3) = false) :
    Calls Tryz.prog 135 #[(.agg #[.int .i64 k, .int .i64 n, .int .i64 d, .string s, .slice A m c])] w fun e w' => e = .returned (.bool false) ∧ Below w.heap.size w w' := by
  go_enter Tryz.func135, Tryz.ntmps135
  go_wp2
  go_ret
  exact ⟨rfl, (by (repeat' (first | with_reducible exact Below.refl _ _ | with_reducible refine Below.setCell ?_ ?_ _ | with_reducible refine Below.alloc ?_ ?_ _ | with_reducible refine Below.drew ?_ | with_reducible refine Below.trans ?_ (Below.mono (by assumption) ?_))); all_goals (first | omega | (simp [World.setCell]; done) | (simp [World.setCell]; omega)))⟩

theorem isWhole_yes (n : Int) (s : ByteArray) (w : World) :
    Calls Tryz.prog 160 #[(.agg #[.int .i64 1, .int .i64 n, .int .i64 1, .string s, .slice none 0 0])] w fun e w' => e = .returned (.bool true) ∧ Below w.heap.size w w' :=
  isWhole_any 1 n 1 s w

end Go.Proofs.YtdpkjhohklfieaaGreat
