/- Whole numbers below 2^53 as float64: exact, and so are their sums and products. No program in sight. -/
import Derived.Test.YtdpkjhohklfieaaGreatFl
set_option linter.unusedSimpArgs false
set_option linter.unusedVariables false
namespace Go.Proofs.YtdpkjhohklfieaaGreat
namespace Fl
open Ieee

theorem log2_mul_two (a K : Nat) (h0 : a ≠ 0) : (a * 2 ^ K).log2 = a.log2 + K := by
  have hne : a * 2 ^ K ≠ 0 := Nat.mul_ne_zero h0 (Nat.ne_of_gt (Nat.pow_pos (by decide)))
  have h1 : 2 ^ a.log2 ≤ a := Nat.log2_self_le h0
  have h2 : a < 2 ^ (a.log2 + 1) := Nat.lt_log2_self
  refine Nat.le_antisymm ?_ ?_
  · refine Nat.le_of_lt_succ ((Nat.log2_lt hne).2 ?_)
    rw [show (a.log2 + K).succ = (a.log2 + 1) + K by omega, Nat.pow_add]
    exact (Nat.mul_lt_mul_right (Nat.pow_pos (by decide))).2 h2
  · refine (Nat.le_log2 hne).2 ?_
    rw [Nat.pow_add]
    exact Nat.mul_le_mul_right _ h1

theorem cut_exact (neg : Bool) (q d : Nat) (hq : q ≠ 0) : Toward.even.cut neg (q * 2 ^ d) d = q := by
  have hp : 0 < 2 ^ d := Nat.pow_pos (by decide)
  have hmin : min d ((q * 2 ^ d).log2 + 2) = d := by rw [log2_mul_two q d hq]; omega
  unfold Toward.cut
  simp only [hmin, Nat.one_shiftLeft, Nat.mul_div_cancel _ hp, Nat.mul_mod_left]
  have : (2 ^ d == 2 * 0) = false := by rw [beq_eq_false_iff_ne]; omega
  simp [this]

theorem rung_leP (P l m : Nat) (hl : l ≤ 52) (hm : m < 2 * P) : (l + 1022) * P + m ≤ 2047 * P := by
  have h1 := Nat.mul_le_mul_right P (show l + 1022 ≤ 1074 by omega)
  omega
theorem two53 : 2 ^ 53 = 2 * 2 ^ 52 := by decide
theorem rung_le (l m : Nat) (hl : l ≤ 52) (hm : m < 2 ^ 53) : (l + 1022) * 2 ^ 52 + m ≤ 2047 * 2 ^ 52 := rung_leP _ l m hl (by rw [two53] at hm; exact hm)

theorem nearest_word (neg : Bool) (a K : Nat) (h0 : a ≠ 0) (h1 : a < 2 ^ 53) :
    double.nearest neg (a * 2 ^ K) (-(K : Int)) = double.word neg ((a.log2 + 1022) * 2 ^ 52 + a * 2 ^ (52 - a.log2)) := by
  have hl : a.log2 ≤ 52 := by
    have := (Nat.log2_lt h0).2 h1
    omega
  have hne : a * 2 ^ K ≠ 0 := Nat.mul_ne_zero h0 (Nat.ne_of_gt (Nat.pow_pos (by decide)))
  have hkept : a * 2 ^ (52 - a.log2) < 2 ^ 53 := by
    have h2 : a < 2 ^ (a.log2 + 1) := Nat.lt_log2_self
    have : a * 2 ^ (52 - a.log2) < 2 ^ (a.log2 + 1) * 2 ^ (52 - a.log2) := (Nat.mul_lt_mul_right (Nat.pow_pos (by decide))).2 h2
    rwa [← Nat.pow_add, show a.log2 + 1 + (52 - a.log2) = 53 by omega] at this
  unfold Format.nearest
  rw [if_neg hne]
  rw [log2_mul_two a K h0]
  have hfb : (double.fractionBits : Int) = 52 := rfl
  have hlp : double.leastPlace = -1074 := by decide +kernel
  have hbin : double.binade = 2 ^ 52 := rfl
  have hinf : double.infRung = 2047 * 2 ^ 52 := by decide +kernel
  have hlast : max (-(K : Int) + (a.log2 + K : Nat) - double.fractionBits) double.leastPlace = (a.log2 : Int) - 52 := by
    rw [hfb, hlp]; omega
  simp only [hlast]
  rw [hlp, hbin, hinf]
  have hr : ((a.log2 : Int) - 52 - -1074).toNat = a.log2 + 1022 := by omega
  rw [hr]
  have hk : Toward.even.cut neg ((a * 2 ^ K) <<< (-(K : Int) - ((a.log2 : Int) - 52)).toNat) ((a.log2 : Int) - 52 - -(K : Int)).toNat = a * 2 ^ (52 - a.log2) := by
    by_cases hK : 52 - a.log2 ≤ K
    · rw [show (-(K : Int) - ((a.log2 : Int) - 52)).toNat = 0 by omega, show ((a.log2 : Int) - 52 - -(K : Int)).toNat = K - (52 - a.log2) by omega, Nat.shiftLeft_zero]
      have : a * 2 ^ K = (a * 2 ^ (52 - a.log2)) * 2 ^ (K - (52 - a.log2)) := by
        rw [Nat.mul_assoc, ← Nat.pow_add, show 52 - a.log2 + (K - (52 - a.log2)) = K by omega]
      rw [this]
      exact cut_exact neg _ _ (Nat.mul_ne_zero h0 (Nat.ne_of_gt (Nat.pow_pos (by decide))))
    · rw [show (-(K : Int) - ((a.log2 : Int) - 52)).toNat = 52 - a.log2 - K by omega, show ((a.log2 : Int) - 52 - -(K : Int)).toNat = 0 by omega, Nat.shiftLeft_eq]
      have : a * 2 ^ K * 2 ^ (52 - a.log2 - K) = (a * 2 ^ (52 - a.log2)) * 2 ^ 0 := by
        rw [Nat.mul_assoc, ← Nat.pow_add, show K + (52 - a.log2 - K) = 52 - a.log2 by omega]; simp
      rw [this]
      exact cut_exact neg _ 0 (Nat.mul_ne_zero h0 (Nat.ne_of_gt (Nat.pow_pos (by decide))))
  rw [hk]
  congr 1
  refine Nat.min_eq_left ?_
  exact rung_le a.log2 _ hl hkept

theorem rung_ltP (P l m : Nat) (hl : l ≤ 52) (hm : m < 2 * P) : (l + 1022) * P + m < 2047 * P := by
  have h1 := Nat.mul_le_mul_right P (show l + 1022 ≤ 1074 by omega)
  omega
theorem rung_geP (P l m : Nat) : P ≤ (l + 1022) * P + m := by
  have h1 := Nat.mul_le_mul_right P (show 1 ≤ l + 1022 by omega)
  omega
theorem rung_modP (P l m : Nat) (h1 : P ≤ m) (h2 : m < 2 * P) : ((l + 1022) * P + m) % P = m - P := by
  rw [show (l + 1022) * P + m = (m - P) + P * (l + 1023) by rw [Nat.mul_comm P, show l + 1023 = l + 1022 + 1 by omega, Nat.add_mul (l + 1022) 1 P]; omega, Nat.add_mul_mod_self_left, Nat.mod_eq_of_lt (by omega)]
theorem rung_divP (P l m : Nat) (hP : 0 < P) (h1 : P ≤ m) (h2 : m < 2 * P) : ((l + 1022) * P + m) / P = l + 1023 := by
  rw [show (l + 1022) * P + m = (m - P) + P * (l + 1023) by rw [Nat.mul_comm P, show l + 1023 = l + 1022 + 1 by omega, Nat.add_mul (l + 1022) 1 P]; omega, Nat.add_mul_div_left _ _ hP, Nat.div_eq_of_lt (by omega), Nat.zero_add]

/-- The nearest word of a whole number below 2^53, however its digits are written, is the number itself. -/
theorem read_nearest (neg : Bool) (a K : Nat) (h0 : a ≠ 0) (h1 : a < 2 ^ 53) :
    double.read (double.nearest neg (a * 2 ^ K) (-(K : Int))) = .number neg (a * 2 ^ (52 - a.log2)) (-((52 - a.log2 : Nat) : Int)) := by
  have hl : a.log2 ≤ 52 := by
    have := (Nat.log2_lt h0).2 h1
    omega
  have hkept : a * 2 ^ (52 - a.log2) < 2 ^ 53 := by
    have h2 : a < 2 ^ (a.log2 + 1) := Nat.lt_log2_self
    have : a * 2 ^ (52 - a.log2) < 2 ^ (a.log2 + 1) * 2 ^ (52 - a.log2) := (Nat.mul_lt_mul_right (Nat.pow_pos (by decide))).2 h2
    rwa [← Nat.pow_add, show a.log2 + 1 + (52 - a.log2) = 53 by omega] at this
  have hkept2 : 2 ^ 52 ≤ a * 2 ^ (52 - a.log2) := by
    have h2 : 2 ^ a.log2 ≤ a := Nat.log2_self_le h0
    have : 2 ^ a.log2 * 2 ^ (52 - a.log2) ≤ a * 2 ^ (52 - a.log2) := Nat.mul_le_mul_right _ h2
    rwa [← Nat.pow_add, show a.log2 + (52 - a.log2) = 52 by omega] at this
  rw [nearest_word neg a K h0 h1]
  have hlp : double.leastPlace = -1074 := by decide +kernel
  have hbin : double.binade = 2 ^ 52 := rfl
  have hinf : double.infRung = 2047 * 2 ^ 52 := by decide +kernel
  obtain ⟨m, hm⟩ : ∃ m, m = a * 2 ^ (52 - a.log2) := ⟨_, rfl⟩
  rw [← hm] at hkept hkept2 ⊢
  obtain ⟨l, hll⟩ : ∃ l, l = a.log2 := ⟨_, rfl⟩
  rw [← hll] at hl ⊢
  clear hll hm h0 h1
  rw [two53] at hkept
  have hsw : double.signWeight = 2048 * 2 ^ 52 := by decide +kernel
  obtain ⟨P, hP⟩ : ∃ P, P = 2 ^ 52 := ⟨_, rfl⟩
  have hP0 : 0 < P := by rw [hP]; decide
  rw [← hP] at hsw hbin hinf hkept hkept2 ⊢
  clear hP
  have hlt := rung_ltP P l m hl hkept
  rw [read_word _ _ (by rw [hsw]; omega), hbin, hinf, hlp]
  rw [if_neg (by have := rung_geP P l m; omega), if_pos hlt, rung_modP P l m hkept2 hkept, rung_divP P l m hP0 hkept2 hkept]
  have e1 : P + (m - P) = m := by omega
  have e2 : (-1074 : Int) + ((l + 1023 - 1 : Nat) : Int) = -((52 - l : Nat) : Int) := by omega
  rw [e1, e2]

/-- The word stands for this whole number. -/
def Is (b : Nat) (n : Int) : Prop := ∃ (s : Bool) (m k : Nat), double.read b = .number s m (-(k : Int)) ∧ signed s m 0 = n * 2 ^ k

theorem signed_up (s : Bool) (m u : Nat) : signed s m u = signed s m 0 * 2 ^ u := by
  unfold signed
  cases s <;> simp [Nat.shiftLeft_eq, Int.neg_mul]
theorem signed_abs (s : Bool) (m : Nat) : (signed s m 0).natAbs = m := by
  unfold signed
  cases s <;> simp

theorem is_zero (s : Bool) : Is (double.word s 0) 0 := by
  refine ⟨s, 0, 1074, ?_, ?_⟩
  · rw [read_word s 0 (by decide +kernel)]
    rw [if_pos (by decide +kernel)]
    rw [show double.leastPlace = -1074 by decide +kernel]
    rfl
  · rw [Int.zero_mul]; cases s <;> rfl

theorem is_nearest (neg : Bool) (n : Int) (K : Nat) (hs : n = 0 ∨ (neg = decide (n < 0))) (h1 : n.natAbs < 2 ^ 53) : Is (double.nearest neg (n.natAbs * 2 ^ K) (-(K : Int))) n := by
  by_cases h0 : n = 0
  · subst h0
    have : double.nearest neg ((0 : Int).natAbs * 2 ^ K) (-(K : Int)) = double.word neg 0 := by unfold Format.nearest; rw [if_pos (by simp)]
    rw [this]
    exact is_zero neg
  · have hneg : neg = decide (n < 0) := by rcases hs with h | h; exact absurd h h0; exact h
    refine ⟨neg, _, _, read_nearest neg n.natAbs K (by omega) h1, ?_⟩
    generalize n.natAbs.log2 = l
    unfold signed
    rw [Nat.shiftLeft_zero, hneg]
    by_cases hn : n < 0
    · rw [decide_eq_true hn, if_pos rfl, Int.natCast_mul]
      rw [show ((n.natAbs : Nat) : Int) = -n by omega, Int.neg_mul, Int.neg_neg]
      congr 1
    · rw [decide_eq_false hn, if_neg (by simp), Int.natCast_mul]
      rw [show ((n.natAbs : Nat) : Int) = n by omega]
      congr 1

theorem is_ofInt (n : Int) (h : n.natAbs < 2 ^ 53) : Is (floatOfInt .f64 n) n := by
  have := is_nearest (decide (n < 0)) n 0 (.inr rfl) h
  rw [show n.natAbs * 2 ^ 0 = n.natAbs by simp] at this
  exact this

theorem is_num {b : Nat} {n : Int} (h : Is b n) : Num b := by
  obtain ⟨s, m, k, hr, _⟩ := h
  unfold Num
  rw [hr]; rfl

theorem is_add {x y : Nat} {n m : Int} (hx : Is x n) (hy : Is y m) (h : (n + m).natAbs < 2 ^ 53) : ∃ r, floatBits .add .f64 x y = some r ∧ Is r (n + m) := by
  obtain ⟨s, a, k, hr, hv⟩ := hx
  obtain ⟨t, b, l, hq, hu⟩ := hy
  show ∃ r, double.add x y = some r ∧ Is r (n + m)
  unfold Format.add
  rw [hr, hq]
  simp only [Datum.sum, Option.map_some]
  obtain ⟨K, hK, hk, hl⟩ : ∃ K : Nat, min (-(k : Int)) (-(l : Int)) = -(K : Int) ∧ k ≤ K ∧ l ≤ K := ⟨max k l, by omega, by omega, by omega⟩
  rw [hK]
  have e1 : signed s a (-(k : Int) - -(K : Int)).toNat = n * 2 ^ K := by
    rw [signed_up, hv, Int.mul_assoc, ← Int.pow_add]; congr 2; omega
  have e2 : signed t b (-(l : Int) - -(K : Int)).toNat = m * 2 ^ K := by
    rw [signed_up, hu, Int.mul_assoc, ← Int.pow_add]; congr 2; omega
  rw [e1, e2, ← Int.add_mul]
  refine ⟨_, rfl, ?_⟩
  show Is (double.nearest _ _ _) _
  rw [Int.natAbs_mul, show ((2 : Int) ^ K).natAbs = 2 ^ K by rw [Int.natAbs_pow]; rfl]
  refine is_nearest _ _ _ ?_ h
  have hp : (0 : Int) < 2 ^ K := Int.pow_pos (by decide)
  by_cases h0 : n + m = 0
  · exact .inl h0
  · right
    have hne : (n + m) * 2 ^ K ≠ 0 := Int.mul_ne_zero h0 (by omega)
    rw [if_neg hne]
    congr 1
    refine propext ⟨fun h => ?_, fun h => Int.mul_neg_of_neg_of_pos h hp⟩
    rcases Int.lt_or_le (n + m) 0 with h' | h'
    · exact h'
    · have := Int.mul_nonneg h' (Int.le_of_lt hp); omega

theorem is_mul {x y : Nat} {n m : Int} (hx : Is x n) (hy : Is y m) (h : (n * m).natAbs < 2 ^ 53) : ∃ r, floatBits .mul .f64 x y = some r ∧ Is r (n * m) := by
  obtain ⟨s, a, k, hr, hv⟩ := hx
  obtain ⟨t, b, l, hq, hu⟩ := hy
  show ∃ r, double.mul x y = some r ∧ Is r (n * m)
  unfold Format.mul
  rw [hr, hq]
  simp only [Datum.product, Option.map_some]
  refine ⟨_, rfl, ?_⟩
  show Is (double.nearest _ _ _) _
  have ha : a = n.natAbs * 2 ^ k := by
    have := congrArg Int.natAbs hv
    rw [signed_abs, Int.natAbs_mul, Int.natAbs_pow] at this
    simpa using this
  have hb : b = m.natAbs * 2 ^ l := by
    have := congrArg Int.natAbs hu
    rw [signed_abs, Int.natAbs_mul, Int.natAbs_pow] at this
    simpa using this
  have hab : a * b = (n * m).natAbs * 2 ^ (k + l) := by
    rw [ha, hb, Int.natAbs_mul, Nat.pow_add]
    simp only [Nat.mul_assoc, Nat.mul_comm, Nat.mul_left_comm]
  rw [hab, show -(k : Int) + -(l : Int) = -((k + l : Nat) : Int) by omega]
  refine is_nearest _ _ _ ?_ h
  by_cases hn : n = 0
  · subst hn; exact .inl (Int.zero_mul _)
  · by_cases hm : m = 0
    · subst hm; exact .inl (Int.mul_zero _)
    · right
      have key : ∀ (s : Bool) (a k : Nat) (n : Int), n ≠ 0 → signed s a 0 = n * 2 ^ k → s = decide (n < 0) := by
        intro s a k n hn hv
        have hp : (0 : Int) < 2 ^ k := Int.pow_pos (by decide)
        cases s
        · symm
          rw [decide_eq_false_iff_not]
          intro hlt
          have := Int.mul_neg_of_neg_of_pos hlt hp
          simp [signed] at hv
          omega
        · symm
          rw [decide_eq_true_iff]
          rcases Int.lt_or_le n 0 with h' | h'
          · exact h'
          · have h2 : 0 < n := by omega
            have := Int.mul_pos h2 hp
            simp [signed] at hv
            omega
      rw [key s a k n hn hv, key t b l m hm hu]
      rcases Int.lt_or_le n 0 with h1 | h1 <;> rcases Int.lt_or_le m 0 with h2 | h2
      · have := Int.mul_pos_of_neg_of_neg h1 h2
        rw [decide_eq_true h1, decide_eq_true h2, decide_eq_false (by omega)]; rfl
      · have := Int.mul_neg_of_neg_of_pos h1 (show 0 < m by omega)
        rw [decide_eq_true h1, decide_eq_false (by omega), decide_eq_true this]; rfl
      · have := Int.mul_neg_of_pos_of_neg (show 0 < n by omega) h2
        rw [decide_eq_false (by omega), decide_eq_true h2, decide_eq_true this]; rfl
      · have := Int.mul_pos (show 0 < n by omega) (show 0 < m by omega)
        rw [decide_eq_false (by omega), decide_eq_false (by omega), decide_eq_false (by omega)]; rfl

theorem is_order {x y : Nat} {n : Int} (hx : Is x n) (hy : Is y n) : double.order x y = some .eq := by
  obtain ⟨s, a, k, hr, hv⟩ := hx
  obtain ⟨t, b, l, hq, hu⟩ := hy
  unfold Format.order
  rw [hr, hq]
  simp only [Datum.order, Option.some.injEq]
  obtain ⟨K, hK, hk, hl⟩ : ∃ K : Nat, min (-(k : Int)) (-(l : Int)) = -(K : Int) ∧ k ≤ K ∧ l ≤ K := ⟨max k l, by omega, by omega, by omega⟩
  rw [hK]
  have e1 : signed s a (-(k : Int) - -(K : Int)).toNat = n * 2 ^ K := by
    rw [signed_up, hv, Int.mul_assoc, ← Int.pow_add]; congr 2; omega
  have e2 : signed t b (-(l : Int) - -(K : Int)).toNat = n * 2 ^ K := by
    rw [signed_up, hu, Int.mul_assoc, ← Int.pow_add]; congr 2; omega
  rw [e1, e2]
  exact Std.ReflCmp.compare_self

theorem is_order_ne {x y : Nat} {n m : Int} (hx : Is x n) (hy : Is y m) (h : n ≠ m) : double.order x y ≠ some .eq := by
  obtain ⟨s, a, k, hr, hv⟩ := hx
  obtain ⟨t, b, l, hq, hu⟩ := hy
  unfold Format.order
  rw [hr, hq]
  simp only [Datum.order, Option.some.injEq, ne_eq]
  obtain ⟨K, hK, hk, hl⟩ : ∃ K : Nat, min (-(k : Int)) (-(l : Int)) = -(K : Int) ∧ k ≤ K ∧ l ≤ K := ⟨max k l, by omega, by omega, by omega⟩
  rw [hK]
  have e1 : signed s a (-(k : Int) - -(K : Int)).toNat = n * 2 ^ K := by
    rw [signed_up, hv, Int.mul_assoc, ← Int.pow_add]; congr 2; omega
  have e2 : signed t b (-(l : Int) - -(K : Int)).toNat = m * 2 ^ K := by
    rw [signed_up, hu, Int.mul_assoc, ← Int.pow_add]; congr 2; omega
  rw [e1, e2]
  intro hc
  have := compare_eq _ _ hc
  have hp : (0 : Int) < 2 ^ K := Int.pow_pos (by decide)
  exact h (Int.eq_of_mul_eq_mul_right (by omega) this)

theorem is_zero0 : Is 0 0 := is_zero false

theorem is_clean {b : Nat} {n : Int} (h : Is b n) : Is (clean b) n := by
  unfold clean
  split
  · rename_i hc
    have hc' : double.order b 0 = some .eq := by simpa using hc
    by_cases hn : n = 0
    · subst hn; exact is_zero0
    · exact absurd hc' (is_order_ne h is_zero0 hn)
  · exact h

theorem is_nb (n : Int) (h : n.natAbs < 2 ^ 53) : Is (nb n 1) n := by
  have hb := nb_bits n 1 (by simp)
  obtain ⟨r, hr⟩ : ∃ r, r = nb n 1 := ⟨_, rfl⟩
  rw [← hr] at hb ⊢
  change double.div (floatOfInt .f64 n) (floatOfInt .f64 1) = some r at hb
  unfold Format.div at hb
  have h1 : double.read (floatOfInt .f64 1) = .number false 4503599627370496 (-52) := by decide +kernel
  rw [h1] at hb
  by_cases h0 : n = 0
  · subst h0
    have hz : double.read (floatOfInt .f64 0) = .number false 0 double.leastPlace := by rw [zero_bits]; exact read_zero
    rw [hz] at hb
    have : (Datum.quotient (double.fractionBits + 2) (.number false 0 double.leastPlace) (.number false 4503599627370496 (-52))).map double.write = some 0 := by decide +kernel
    rw [this] at hb
    injection hb with hb
    rw [← hb]; exact is_zero0
  · have hneg : floatOfInt .f64 n = double.nearest (decide (n < 0)) (n.natAbs * 2 ^ 0) (-((0 : Nat) : Int)) := by
      rw [show n.natAbs * 2 ^ 0 = n.natAbs by simp]; rfl
    rw [hneg, read_nearest _ _ 0 (by omega) h] at hb
    have hl : n.natAbs.log2 ≤ 52 := by
      have := (Nat.log2_lt (show n.natAbs ≠ 0 by omega)).2 h
      omega
    have hml : (n.natAbs * 2 ^ (52 - n.natAbs.log2)).log2 = 52 := by rw [log2_mul_two _ _ (by omega)]; omega
    obtain ⟨u, hu⟩ : ∃ u, u = 52 - n.natAbs.log2 := ⟨_, rfl⟩
    rw [← hu] at hb hml
    simp only [Datum.quotient] at hb
    rw [if_neg (by decide), hml] at hb
    have hmore : double.fractionBits + 2 + Nat.log2 4503599627370496 - 52 = 54 := by decide +kernel
    rw [hmore] at hb
    have hsh : (n.natAbs * 2 ^ u) <<< 54 = n.natAbs * 2 ^ u * 4 * 4503599627370496 := by rw [Nat.shiftLeft_eq]; omega
    rw [hsh, Nat.mul_div_cancel _ (by decide), Nat.mul_mod_left] at hb
    simp only [Option.map_some, Option.some.injEq] at hb
    rw [← hb]
    show Is (double.nearest _ _ _) n
    have e1 : 2 * (n.natAbs * 2 ^ u * 4) + (0 != 0 : Bool).toNat = n.natAbs * 2 ^ (u + 3) := by
      rw [show n.natAbs * 2 ^ (u + 3) = n.natAbs * 2 ^ u * 8 by rw [Nat.pow_add, ← Nat.mul_assoc]]
      generalize n.natAbs * 2 ^ u = q
      show 2 * (q * 4) + 0 = q * 8
      omega
    have e2 : -(u : Int) - -52 - ((54 : Nat) : Int) - 1 = -((u + 3 : Nat) : Int) := by omega
    rw [e1, e2]
    refine is_nearest _ _ _ (.inr ?_) h
    simp

end Fl
end Go.Proofs.YtdpkjhohklfieaaGreat
