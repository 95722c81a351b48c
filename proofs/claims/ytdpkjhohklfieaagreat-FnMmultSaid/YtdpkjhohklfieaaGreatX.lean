/- Read: what a text is as a number; one of the values that come. -/
import Derived.Test.YtdpkjhohklfieaaGreatW
set_option linter.unusedSimpArgs false
set_option linter.unusedVariables false
namespace Go.Proofs.YtdpkjhohklfieaaGreat
open Go.RowKit
set_option maxRecDepth 100000

theorem pow_le (m : Nat) (h : m ≤ 12) : (10 : Int) ^ m ≤ 1000000000000 := by
  rcases (show m = 0 ∨ m = 1 ∨ m = 2 ∨ m = 3 ∨ m = 4 ∨ m = 5 ∨ m = 6 ∨ m = 7 ∨ m = 8 ∨ m = 9 ∨ m = 10 ∨ m = 11 ∨ m = 12 by omega) with h | h | h | h | h | h | h | h | h | h | h | h | h <;> subst h <;> decide

set_option maxHeartbeats 8000000 in
theorem read_any (s : ByteArray) (w : World) (hs : s.size ≤ 2147483647) :
    Calls Tryz.prog 207 #[.string s] w (ReadPost w) := by
  have hs' : s.size ≤ 9223372036854775807 := by omega
  have hstart' : s.size = 0 ∨ (0 < s.size ∧ ∀ h : 0 < s.size, ((((s[0]'h).toNat : Int)) == 45) = false) ∨ (0 < s.size ∧ ∀ h : 0 < s.size, ((((s[0]'h).toNat : Int)) == 45) = true) := by
    rcases Nat.eq_zero_or_pos s.size with h | h
    · exact .inl h
    · cases he : ((((s[0]'h).toNat : Int)) == 45)
      · exact .inr (.inl ⟨h, fun _ => he⟩)
      · exact .inr (.inr ⟨h, fun _ => he⟩)
  rcases hstart' with h0 | ⟨h0, hq⟩ | ⟨h0, hq⟩
  · have h0' : ¬ 0 < s.size := by omega
    clear h0
    go_enter Tryz.func207, Tryz.ntmps207
    go_wp2_with fail
    go_loop [3, 5, 6, 7, 8] (fun at' n many d pt => ∃ (k m : Nat) (nn dd : Int) (p : Bool), k ≤ s.size ∧ m ≤ 12 ∧ 0 ≤ nn ∧ nn < 10 ^ m ∧ 1 ≤ dd ∧ dd ≤ 10 ^ m ∧ at' = .int .i64 k ∧ n = .int .i64 nn ∧ many = .int .i64 m ∧ d = .int .i64 dd ∧ pt = .bool p) (fun at' _ _ _ _ => s.size - (intOf at').toNat)
    case atStart => exact ⟨0, 0, 0, 1, false, by omega, by omega, by omega, by decide, by omega, by decide, rfl, rfl, rfl, rfl, rfl⟩
    case round =>
      obtain ⟨k, m, nn, dd, p, hk, hm, hn0, hn1, hd0, hd1, rfl, rfl, rfl, rfl, rfl⟩ := hrel
      have hpw := pow_le m hm
      have hps := Int.pow_succ 10 m
      have hn2 : nn ≤ 1000000000000 := by omega
      have hd2 : dd ≤ 1000000000000 := by omega
      have HN := Lib.hid hn1
      have HD := Lib.hid hd1
      have HP := Lib.hid hps
      clear hn1 hd1 hps hpw
      by_cases hlt : k < s.size
      · omega
      · have hke : k = s.size := by omega
        subst hke
        by_cases hm0 : m = 0
        · subst hm0
          go_wp2_with (go_at_call 213; refine (other_any s _ hs).mono ?_; rintro e w1 hpost; obtain ⟨x, hxo, hxk, rfl, hb1⟩ := hpost.read; obtain ⟨hc1, hf1, hz1⟩ := bcell hb1; simp only [World.size_alloc] at hz1)
          refine bodyPost_ret (v := (.agg #[.int .i64 x.k, .int .i64 x.n, .int .i64 x.d, .string x.s, .slice none 0 0])) (by simp [results, Tryz.results207, go_sem, hc1]) rfl ⟨x, hxo, hxk, rfl, (by (repeat' (first | with_reducible exact Below.refl _ _ | with_reducible refine Below.setCell ?_ ?_ _ | with_reducible refine Below.alloc ?_ ?_ _ | with_reducible refine Below.drew ?_ | with_reducible refine Below.trans ?_ (Below.mono (by assumption) ?_))); all_goals (first | omega | (simp [World.setCell]; done) | (simp [World.setCell]; omega)))⟩
        · have em0 : ((m : Int) == 0) = false := by rw [beq_eq_false_iff_ne]; omega
          by_cases hdb : 100000 < dd
          · go_wp2_with (go_at_call 213; refine (other_any s _ hs).mono ?_; rintro e w1 hpost; obtain ⟨x, hxo, hxk, rfl, hb1⟩ := hpost.read; obtain ⟨hc1, hf1, hz1⟩ := bcell hb1; simp only [World.size_alloc] at hz1)
            refine bodyPost_ret (v := (.agg #[.int .i64 x.k, .int .i64 x.n, .int .i64 x.d, .string x.s, .slice none 0 0])) (by simp [results, Tryz.results207, go_sem, hc1]) rfl ⟨x, hxo, hxk, rfl, (by (repeat' (first | with_reducible exact Below.refl _ _ | with_reducible refine Below.setCell ?_ ?_ _ | with_reducible refine Below.alloc ?_ ?_ _ | with_reducible refine Below.drew ?_ | with_reducible refine Below.trans ?_ (Below.mono (by assumption) ?_))); all_goals (first | omega | (simp [World.setCell]; done) | (simp [World.setCell]; omega)))⟩
          · go_wp2_with (go_at_call 32; refine (frac_any _ _ _ (by omega) (by omega)).mono ?_; rintro e w1 hpost; obtain ⟨x, hxo, hxk, rfl, hb1⟩ := hpost.read; obtain ⟨hc1, hf1, hz1⟩ := bcell hb1; simp only [World.size_alloc] at hz1)
            refine bodyPost_ret (v := (.agg #[.int .i64 x.k, .int .i64 x.n, .int .i64 x.d, .string x.s, .slice none 0 0])) (by simp [results, Tryz.results207, go_sem, hc1]) rfl ⟨x, hxo, hxk, rfl, (by (repeat' (first | with_reducible exact Below.refl _ _ | with_reducible refine Below.setCell ?_ ?_ _ | with_reducible refine Below.alloc ?_ ?_ _ | with_reducible refine Below.drew ?_ | with_reducible refine Below.trans ?_ (Below.mono (by assumption) ?_))); all_goals (first | omega | (simp [World.setCell]; done) | (simp [World.setCell]; omega)))⟩
  · have hq' := hq h0
    clear hq
    go_enter Tryz.func207, Tryz.ntmps207
    go_wp2_with fail
    go_loop [3, 5, 6, 7, 8] (fun at' n many d pt => ∃ (k m : Nat) (nn dd : Int) (p : Bool), k ≤ s.size ∧ m ≤ 12 ∧ 0 ≤ nn ∧ nn < 10 ^ m ∧ 1 ≤ dd ∧ dd ≤ 10 ^ m ∧ at' = .int .i64 k ∧ n = .int .i64 nn ∧ many = .int .i64 m ∧ d = .int .i64 dd ∧ pt = .bool p) (fun at' _ _ _ _ => s.size - (intOf at').toNat)
    case atStart => exact ⟨0, 0, 0, 1, false, by omega, by omega, by omega, by decide, by omega, by decide, rfl, rfl, rfl, rfl, rfl⟩
    case round =>
      obtain ⟨k, m, nn, dd, p, hk, hm, hn0, hn1, hd0, hd1, rfl, rfl, rfl, rfl, rfl⟩ := hrel
      have hpw := pow_le m hm
      have hps := Int.pow_succ 10 m
      have hn2 : nn ≤ 1000000000000 := by omega
      have hd2 : dd ≤ 1000000000000 := by omega
      have HN := Lib.hid hn1
      have HD := Lib.hid hd1
      have HP := Lib.hid hps
      clear hn1 hd1 hps hpw
      by_cases hlt : k < s.size
      · obtain ⟨c, hc⟩ : ∃ c : Int, c = ((s[k]).toNat : Int) := ⟨_, rfl⟩
        have hc0 : (0 : Int) ≤ ((s[k]).toNat : Int) := Int.natCast_nonneg _
        have hc1 : ((s[k]).toNat : Int) ≤ 255 := by have := (s[k]).toNat_lt; omega
        clear hc
        clear c
        by_cases h46 : ((s[k]).toNat : Int) = 46
        · have e46 : (((s[k]).toNat : Int) == 46) = true := by rw [h46]; rfl
          have l48 : ((s[k]).toNat : Int) < 48 := by omega
          clear h46
          cases p
          · by_cases hm0 : 0 < m
            · by_cases hk1 : k + 1 < s.size
              · go_wp2_with fail
                go_round
                case rel => exact ⟨k + 1, m, nn, dd, true, by omega, hm, hn0, HN.out, hd0, HD.out, by go_num, rfl, rfl, rfl, rfl⟩
                case measure => simp [intOf]; omega
              · go_wp2_with (go_at_call 213; refine (other_any s _ hs).mono ?_; rintro e w1 hpost; obtain ⟨x, hxo, hxk, rfl, hb1⟩ := hpost.read; obtain ⟨hc1, hf1, hz1⟩ := bcell hb1; simp only [World.size_alloc] at hz1)
                refine bodyPost_ret (v := (.agg #[.int .i64 x.k, .int .i64 x.n, .int .i64 x.d, .string x.s, .slice none 0 0])) (by simp [results, Tryz.results207, go_sem, hc1]) rfl ⟨x, hxo, hxk, rfl, (by (repeat' (first | with_reducible exact Below.refl _ _ | with_reducible refine Below.setCell ?_ ?_ _ | with_reducible refine Below.alloc ?_ ?_ _ | with_reducible refine Below.drew ?_ | with_reducible refine Below.trans ?_ (Below.mono (by assumption) ?_))); all_goals (first | omega | (simp [World.setCell]; done) | (simp [World.setCell]; omega)))⟩
            · go_wp2_with (go_at_call 213; refine (other_any s _ hs).mono ?_; rintro e w1 hpost; obtain ⟨x, hxo, hxk, rfl, hb1⟩ := hpost.read; obtain ⟨hc1, hf1, hz1⟩ := bcell hb1; simp only [World.size_alloc] at hz1)
              refine bodyPost_ret (v := (.agg #[.int .i64 x.k, .int .i64 x.n, .int .i64 x.d, .string x.s, .slice none 0 0])) (by simp [results, Tryz.results207, go_sem, hc1]) rfl ⟨x, hxo, hxk, rfl, (by (repeat' (first | with_reducible exact Below.refl _ _ | with_reducible refine Below.setCell ?_ ?_ _ | with_reducible refine Below.alloc ?_ ?_ _ | with_reducible refine Below.drew ?_ | with_reducible refine Below.trans ?_ (Below.mono (by assumption) ?_))); all_goals (first | omega | (simp [World.setCell]; done) | (simp [World.setCell]; omega)))⟩
          · go_wp2_with (go_at_call 213; refine (other_any s _ hs).mono ?_; rintro e w1 hpost; obtain ⟨x, hxo, hxk, rfl, hb1⟩ := hpost.read; obtain ⟨hc1, hf1, hz1⟩ := bcell hb1; simp only [World.size_alloc] at hz1)
            refine bodyPost_ret (v := (.agg #[.int .i64 x.k, .int .i64 x.n, .int .i64 x.d, .string x.s, .slice none 0 0])) (by simp [results, Tryz.results207, go_sem, hc1]) rfl ⟨x, hxo, hxk, rfl, (by (repeat' (first | with_reducible exact Below.refl _ _ | with_reducible refine Below.setCell ?_ ?_ _ | with_reducible refine Below.alloc ?_ ?_ _ | with_reducible refine Below.drew ?_ | with_reducible refine Below.trans ?_ (Below.mono (by assumption) ?_))); all_goals (first | omega | (simp [World.setCell]; done) | (simp [World.setCell]; omega)))⟩
        · have e46 : (((s[k]).toNat : Int) == 46) = false := by rw [beq_eq_false_iff_ne]; exact h46
          clear h46
          by_cases h48 : ((s[k]).toNat : Int) < 48
          · go_wp2_with (go_at_call 213; refine (other_any s _ hs).mono ?_; rintro e w1 hpost; obtain ⟨x, hxo, hxk, rfl, hb1⟩ := hpost.read; obtain ⟨hc1, hf1, hz1⟩ := bcell hb1; simp only [World.size_alloc] at hz1)
            refine bodyPost_ret (v := (.agg #[.int .i64 x.k, .int .i64 x.n, .int .i64 x.d, .string x.s, .slice none 0 0])) (by simp [results, Tryz.results207, go_sem, hc1]) rfl ⟨x, hxo, hxk, rfl, (by (repeat' (first | with_reducible exact Below.refl _ _ | with_reducible refine Below.setCell ?_ ?_ _ | with_reducible refine Below.alloc ?_ ?_ _ | with_reducible refine Below.drew ?_ | with_reducible refine Below.trans ?_ (Below.mono (by assumption) ?_))); all_goals (first | omega | (simp [World.setCell]; done) | (simp [World.setCell]; omega)))⟩
          · by_cases h57 : 57 < ((s[k]).toNat : Int)
            · go_wp2_with (go_at_call 213; refine (other_any s _ hs).mono ?_; rintro e w1 hpost; obtain ⟨x, hxo, hxk, rfl, hb1⟩ := hpost.read; obtain ⟨hc1, hf1, hz1⟩ := bcell hb1; simp only [World.size_alloc] at hz1)
              refine bodyPost_ret (v := (.agg #[.int .i64 x.k, .int .i64 x.n, .int .i64 x.d, .string x.s, .slice none 0 0])) (by simp [results, Tryz.results207, go_sem, hc1]) rfl ⟨x, hxo, hxk, rfl, (by (repeat' (first | with_reducible exact Below.refl _ _ | with_reducible refine Below.setCell ?_ ?_ _ | with_reducible refine Below.alloc ?_ ?_ _ | with_reducible refine Below.drew ?_ | with_reducible refine Below.trans ?_ (Below.mono (by assumption) ?_))); all_goals (first | omega | (simp [World.setCell]; done) | (simp [World.setCell]; omega)))⟩
            · by_cases hm12 : m < 12
              · have hnx : (10 : Int) * nn + (((s[k]).toNat : Int) - 48) < 10 ^ (m + 1) := by have := HP.out; have := HN.out; omega
                have hdx : dd ≤ 10 ^ (m + 1) := by have := HP.out; have := HD.out; omega
                have hdy : dd * 10 ≤ 10 ^ (m + 1) := by have := HP.out; have := HD.out; omega
                have HNX := Lib.hid hnx
                have HDX := Lib.hid hdx
                have HDY := Lib.hid hdy
                clear hnx hdx hdy
                cases p
                · go_wp2_with fail
                  go_round
                  case rel => exact ⟨k + 1, m + 1, _, dd, false, by omega, by omega, by omega, HNX.out, hd0, HDX.out, by go_num, rfl, by go_num, rfl, rfl⟩
                  case measure => simp [intOf]; omega
                · go_wp2_with fail
                  go_round
                  case rel => exact ⟨k + 1, m + 1, _, _, true, by omega, by omega, by omega, HNX.out, by omega, HDY.out, by go_num, rfl, by go_num, rfl, rfl⟩
                  case measure => simp [intOf]; omega
              · go_wp2_with (go_at_call 213; refine (other_any s _ hs).mono ?_; rintro e w1 hpost; obtain ⟨x, hxo, hxk, rfl, hb1⟩ := hpost.read; obtain ⟨hc1, hf1, hz1⟩ := bcell hb1; simp only [World.size_alloc] at hz1)
                refine bodyPost_ret (v := (.agg #[.int .i64 x.k, .int .i64 x.n, .int .i64 x.d, .string x.s, .slice none 0 0])) (by simp [results, Tryz.results207, go_sem, hc1]) rfl ⟨x, hxo, hxk, rfl, (by (repeat' (first | with_reducible exact Below.refl _ _ | with_reducible refine Below.setCell ?_ ?_ _ | with_reducible refine Below.alloc ?_ ?_ _ | with_reducible refine Below.drew ?_ | with_reducible refine Below.trans ?_ (Below.mono (by assumption) ?_))); all_goals (first | omega | (simp [World.setCell]; done) | (simp [World.setCell]; omega)))⟩
      · have hke : k = s.size := by omega
        subst hke
        by_cases hm0 : m = 0
        · subst hm0
          go_wp2_with (go_at_call 213; refine (other_any s _ hs).mono ?_; rintro e w1 hpost; obtain ⟨x, hxo, hxk, rfl, hb1⟩ := hpost.read; obtain ⟨hc1, hf1, hz1⟩ := bcell hb1; simp only [World.size_alloc] at hz1)
          refine bodyPost_ret (v := (.agg #[.int .i64 x.k, .int .i64 x.n, .int .i64 x.d, .string x.s, .slice none 0 0])) (by simp [results, Tryz.results207, go_sem, hc1]) rfl ⟨x, hxo, hxk, rfl, (by (repeat' (first | with_reducible exact Below.refl _ _ | with_reducible refine Below.setCell ?_ ?_ _ | with_reducible refine Below.alloc ?_ ?_ _ | with_reducible refine Below.drew ?_ | with_reducible refine Below.trans ?_ (Below.mono (by assumption) ?_))); all_goals (first | omega | (simp [World.setCell]; done) | (simp [World.setCell]; omega)))⟩
        · have em0 : ((m : Int) == 0) = false := by rw [beq_eq_false_iff_ne]; omega
          by_cases hdb : 100000 < dd
          · go_wp2_with (go_at_call 213; refine (other_any s _ hs).mono ?_; rintro e w1 hpost; obtain ⟨x, hxo, hxk, rfl, hb1⟩ := hpost.read; obtain ⟨hc1, hf1, hz1⟩ := bcell hb1; simp only [World.size_alloc] at hz1)
            refine bodyPost_ret (v := (.agg #[.int .i64 x.k, .int .i64 x.n, .int .i64 x.d, .string x.s, .slice none 0 0])) (by simp [results, Tryz.results207, go_sem, hc1]) rfl ⟨x, hxo, hxk, rfl, (by (repeat' (first | with_reducible exact Below.refl _ _ | with_reducible refine Below.setCell ?_ ?_ _ | with_reducible refine Below.alloc ?_ ?_ _ | with_reducible refine Below.drew ?_ | with_reducible refine Below.trans ?_ (Below.mono (by assumption) ?_))); all_goals (first | omega | (simp [World.setCell]; done) | (simp [World.setCell]; omega)))⟩
          · go_wp2_with (go_at_call 32; refine (frac_any _ _ _ (by omega) (by omega)).mono ?_; rintro e w1 hpost; obtain ⟨x, hxo, hxk, rfl, hb1⟩ := hpost.read; obtain ⟨hc1, hf1, hz1⟩ := bcell hb1; simp only [World.size_alloc] at hz1)
            refine bodyPost_ret (v := (.agg #[.int .i64 x.k, .int .i64 x.n, .int .i64 x.d, .string x.s, .slice none 0 0])) (by simp [results, Tryz.results207, go_sem, hc1]) rfl ⟨x, hxo, hxk, rfl, (by (repeat' (first | with_reducible exact Below.refl _ _ | with_reducible refine Below.setCell ?_ ?_ _ | with_reducible refine Below.alloc ?_ ?_ _ | with_reducible refine Below.drew ?_ | with_reducible refine Below.trans ?_ (Below.mono (by assumption) ?_))); all_goals (first | omega | (simp [World.setCell]; done) | (simp [World.setCell]; omega)))⟩
  · have hq' := hq h0
    clear hq
    go_enter Tryz.func207, Tryz.ntmps207
    go_wp2_with fail
    go_loop [3, 5, 6, 7, 8] (fun at' n many d pt => ∃ (k m : Nat) (nn dd : Int) (p : Bool), k ≤ s.size ∧ m ≤ 12 ∧ 0 ≤ nn ∧ nn < 10 ^ m ∧ 1 ≤ dd ∧ dd ≤ 10 ^ m ∧ at' = .int .i64 k ∧ n = .int .i64 nn ∧ many = .int .i64 m ∧ d = .int .i64 dd ∧ pt = .bool p) (fun at' _ _ _ _ => s.size - (intOf at').toNat)
    case atStart => exact ⟨1, 0, 0, 1, false, by omega, by omega, by omega, by decide, by omega, by decide, rfl, rfl, rfl, rfl, rfl⟩
    case round =>
      obtain ⟨k, m, nn, dd, p, hk, hm, hn0, hn1, hd0, hd1, rfl, rfl, rfl, rfl, rfl⟩ := hrel
      have hpw := pow_le m hm
      have hps := Int.pow_succ 10 m
      have hn2 : nn ≤ 1000000000000 := by omega
      have hd2 : dd ≤ 1000000000000 := by omega
      have HN := Lib.hid hn1
      have HD := Lib.hid hd1
      have HP := Lib.hid hps
      clear hn1 hd1 hps hpw
      by_cases hlt : k < s.size
      · obtain ⟨c, hc⟩ : ∃ c : Int, c = ((s[k]).toNat : Int) := ⟨_, rfl⟩
        have hc0 : (0 : Int) ≤ ((s[k]).toNat : Int) := Int.natCast_nonneg _
        have hc1 : ((s[k]).toNat : Int) ≤ 255 := by have := (s[k]).toNat_lt; omega
        clear hc
        clear c
        by_cases h46 : ((s[k]).toNat : Int) = 46
        · have e46 : (((s[k]).toNat : Int) == 46) = true := by rw [h46]; rfl
          have l48 : ((s[k]).toNat : Int) < 48 := by omega
          clear h46
          cases p
          · by_cases hm0 : 0 < m
            · by_cases hk1 : k + 1 < s.size
              · go_wp2_with fail
                go_round
                case rel => exact ⟨k + 1, m, nn, dd, true, by omega, hm, hn0, HN.out, hd0, HD.out, by go_num, rfl, rfl, rfl, rfl⟩
                case measure => simp [intOf]; omega
              · go_wp2_with (go_at_call 213; refine (other_any s _ hs).mono ?_; rintro e w1 hpost; obtain ⟨x, hxo, hxk, rfl, hb1⟩ := hpost.read; obtain ⟨hc1, hf1, hz1⟩ := bcell hb1; simp only [World.size_alloc] at hz1)
                refine bodyPost_ret (v := (.agg #[.int .i64 x.k, .int .i64 x.n, .int .i64 x.d, .string x.s, .slice none 0 0])) (by simp [results, Tryz.results207, go_sem, hc1]) rfl ⟨x, hxo, hxk, rfl, (by (repeat' (first | with_reducible exact Below.refl _ _ | with_reducible refine Below.setCell ?_ ?_ _ | with_reducible refine Below.alloc ?_ ?_ _ | with_reducible refine Below.drew ?_ | with_reducible refine Below.trans ?_ (Below.mono (by assumption) ?_))); all_goals (first | omega | (simp [World.setCell]; done) | (simp [World.setCell]; omega)))⟩
            · go_wp2_with (go_at_call 213; refine (other_any s _ hs).mono ?_; rintro e w1 hpost; obtain ⟨x, hxo, hxk, rfl, hb1⟩ := hpost.read; obtain ⟨hc1, hf1, hz1⟩ := bcell hb1; simp only [World.size_alloc] at hz1)
              refine bodyPost_ret (v := (.agg #[.int .i64 x.k, .int .i64 x.n, .int .i64 x.d, .string x.s, .slice none 0 0])) (by simp [results, Tryz.results207, go_sem, hc1]) rfl ⟨x, hxo, hxk, rfl, (by (repeat' (first | with_reducible exact Below.refl _ _ | with_reducible refine Below.setCell ?_ ?_ _ | with_reducible refine Below.alloc ?_ ?_ _ | with_reducible refine Below.drew ?_ | with_reducible refine Below.trans ?_ (Below.mono (by assumption) ?_))); all_goals (first | omega | (simp [World.setCell]; done) | (simp [World.setCell]; omega)))⟩
          · go_wp2_with (go_at_call 213; refine (other_any s _ hs).mono ?_; rintro e w1 hpost; obtain ⟨x, hxo, hxk, rfl, hb1⟩ := hpost.read; obtain ⟨hc1, hf1, hz1⟩ := bcell hb1; simp only [World.size_alloc] at hz1)
            refine bodyPost_ret (v := (.agg #[.int .i64 x.k, .int .i64 x.n, .int .i64 x.d, .string x.s, .slice none 0 0])) (by simp [results, Tryz.results207, go_sem, hc1]) rfl ⟨x, hxo, hxk, rfl, (by (repeat' (first | with_reducible exact Below.refl _ _ | with_reducible refine Below.setCell ?_ ?_ _ | with_reducible refine Below.alloc ?_ ?_ _ | with_reducible refine Below.drew ?_ | with_reducible refine Below.trans ?_ (Below.mono (by assumption) ?_))); all_goals (first | omega | (simp [World.setCell]; done) | (simp [World.setCell]; omega)))⟩
        · have e46 : (((s[k]).toNat : Int) == 46) = false := by rw [beq_eq_false_iff_ne]; exact h46
          clear h46
          by_cases h48 : ((s[k]).toNat : Int) < 48
          · go_wp2_with (go_at_call 213; refine (other_any s _ hs).mono ?_; rintro e w1 hpost; obtain ⟨x, hxo, hxk, rfl, hb1⟩ := hpost.read; obtain ⟨hc1, hf1, hz1⟩ := bcell hb1; simp only [World.size_alloc] at hz1)
            refine bodyPost_ret (v := (.agg #[.int .i64 x.k, .int .i64 x.n, .int .i64 x.d, .string x.s, .slice none 0 0])) (by simp [results, Tryz.results207, go_sem, hc1]) rfl ⟨x, hxo, hxk, rfl, (by (repeat' (first | with_reducible exact Below.refl _ _ | with_reducible refine Below.setCell ?_ ?_ _ | with_reducible refine Below.alloc ?_ ?_ _ | with_reducible refine Below.drew ?_ | with_reducible refine Below.trans ?_ (Below.mono (by assumption) ?_))); all_goals (first | omega | (simp [World.setCell]; done) | (simp [World.setCell]; omega)))⟩
          · by_cases h57 : 57 < ((s[k]).toNat : Int)
            · go_wp2_with (go_at_call 213; refine (other_any s _ hs).mono ?_; rintro e w1 hpost; obtain ⟨x, hxo, hxk, rfl, hb1⟩ := hpost.read; obtain ⟨hc1, hf1, hz1⟩ := bcell hb1; simp only [World.size_alloc] at hz1)
              refine bodyPost_ret (v := (.agg #[.int .i64 x.k, .int .i64 x.n, .int .i64 x.d, .string x.s, .slice none 0 0])) (by simp [results, Tryz.results207, go_sem, hc1]) rfl ⟨x, hxo, hxk, rfl, (by (repeat' (first | with_reducible exact Below.refl _ _ | with_reducible refine Below.setCell ?_ ?_ _ | with_reducible refine Below.alloc ?_ ?_ _ | with_reducible refine Below.drew ?_ | with_reducible refine Below.trans ?_ (Below.mono (by assumption) ?_))); all_goals (first | omega | (simp [World.setCell]; done) | (simp [World.setCell]; omega)))⟩
            · by_cases hm12 : m < 12
              · have hnx : (10 : Int) * nn + (((s[k]).toNat : Int) - 48) < 10 ^ (m + 1) := by have := HP.out; have := HN.out; omega
                have hdx : dd ≤ 10 ^ (m + 1) := by have := HP.out; have := HD.out; omega
                have hdy : dd * 10 ≤ 10 ^ (m + 1) := by have := HP.out; have := HD.out; omega
                have HNX := Lib.hid hnx
                have HDX := Lib.hid hdx
                have HDY := Lib.hid hdy
                clear hnx hdx hdy
                cases p
                · go_wp2_with fail
                  go_round
                  case rel => exact ⟨k + 1, m + 1, _, dd, false, by omega, by omega, by omega, HNX.out, hd0, HDX.out, by go_num, rfl, by go_num, rfl, rfl⟩
                  case measure => simp [intOf]; omega
                · go_wp2_with fail
                  go_round
                  case rel => exact ⟨k + 1, m + 1, _, _, true, by omega, by omega, by omega, HNX.out, by omega, HDY.out, by go_num, rfl, by go_num, rfl, rfl⟩
                  case measure => simp [intOf]; omega
              · go_wp2_with (go_at_call 213; refine (other_any s _ hs).mono ?_; rintro e w1 hpost; obtain ⟨x, hxo, hxk, rfl, hb1⟩ := hpost.read; obtain ⟨hc1, hf1, hz1⟩ := bcell hb1; simp only [World.size_alloc] at hz1)
                refine bodyPost_ret (v := (.agg #[.int .i64 x.k, .int .i64 x.n, .int .i64 x.d, .string x.s, .slice none 0 0])) (by simp [results, Tryz.results207, go_sem, hc1]) rfl ⟨x, hxo, hxk, rfl, (by (repeat' (first | with_reducible exact Below.refl _ _ | with_reducible refine Below.setCell ?_ ?_ _ | with_reducible refine Below.alloc ?_ ?_ _ | with_reducible refine Below.drew ?_ | with_reducible refine Below.trans ?_ (Below.mono (by assumption) ?_))); all_goals (first | omega | (simp [World.setCell]; done) | (simp [World.setCell]; omega)))⟩
      · have hke : k = s.size := by omega
        subst hke
        by_cases hm0 : m = 0
        · subst hm0
          go_wp2_with (go_at_call 213; refine (other_any s _ hs).mono ?_; rintro e w1 hpost; obtain ⟨x, hxo, hxk, rfl, hb1⟩ := hpost.read; obtain ⟨hc1, hf1, hz1⟩ := bcell hb1; simp only [World.size_alloc] at hz1)
          refine bodyPost_ret (v := (.agg #[.int .i64 x.k, .int .i64 x.n, .int .i64 x.d, .string x.s, .slice none 0 0])) (by simp [results, Tryz.results207, go_sem, hc1]) rfl ⟨x, hxo, hxk, rfl, (by (repeat' (first | with_reducible exact Below.refl _ _ | with_reducible refine Below.setCell ?_ ?_ _ | with_reducible refine Below.alloc ?_ ?_ _ | with_reducible refine Below.drew ?_ | with_reducible refine Below.trans ?_ (Below.mono (by assumption) ?_))); all_goals (first | omega | (simp [World.setCell]; done) | (simp [World.setCell]; omega)))⟩
        · have em0 : ((m : Int) == 0) = false := by rw [beq_eq_false_iff_ne]; omega
          by_cases hdb : 100000 < dd
          · go_wp2_with (go_at_call 213; refine (other_any s _ hs).mono ?_; rintro e w1 hpost; obtain ⟨x, hxo, hxk, rfl, hb1⟩ := hpost.read; obtain ⟨hc1, hf1, hz1⟩ := bcell hb1; simp only [World.size_alloc] at hz1)
            refine bodyPost_ret (v := (.agg #[.int .i64 x.k, .int .i64 x.n, .int .i64 x.d, .string x.s, .slice none 0 0])) (by simp [results, Tryz.results207, go_sem, hc1]) rfl ⟨x, hxo, hxk, rfl, (by (repeat' (first | with_reducible exact Below.refl _ _ | with_reducible refine Below.setCell ?_ ?_ _ | with_reducible refine Below.alloc ?_ ?_ _ | with_reducible refine Below.drew ?_ | with_reducible refine Below.trans ?_ (Below.mono (by assumption) ?_))); all_goals (first | omega | (simp [World.setCell]; done) | (simp [World.setCell]; omega)))⟩
          · go_wp2_with (go_at_call 32; refine (frac_any _ _ _ (by omega) (by omega)).mono ?_; rintro e w1 hpost; obtain ⟨x, hxo, hxk, rfl, hb1⟩ := hpost.read; obtain ⟨hc1, hf1, hz1⟩ := bcell hb1; simp only [World.size_alloc] at hz1)
            refine bodyPost_ret (v := (.agg #[.int .i64 x.k, .int .i64 x.n, .int .i64 x.d, .string x.s, .slice none 0 0])) (by simp [results, Tryz.results207, go_sem, hc1]) rfl ⟨x, hxo, hxk, rfl, (by (repeat' (first | with_reducible exact Below.refl _ _ | with_reducible refine Below.setCell ?_ ?_ _ | with_reducible refine Below.alloc ?_ ?_ _ | with_reducible refine Below.drew ?_ | with_reducible refine Below.trans ?_ (Below.mono (by assumption) ?_))); all_goals (first | omega | (simp [World.setCell]; done) | (simp [World.setCell]; omega)))⟩

end Go.Proofs.YtdpkjhohklfieaaGreat
