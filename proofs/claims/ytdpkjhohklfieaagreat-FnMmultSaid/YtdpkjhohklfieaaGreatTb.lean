/- Cells as plain data: part, Item.val, zzFits1, table. -/
import Derived.Test.YtdpkjhohklfieaaGreatGp
import Derived.Test.YtdpkjhohklfieaaGreatW
set_option linter.unusedSimpArgs false
set_option linter.unusedVariables false
namespace Go.Proofs.YtdpkjhohklfieaaGreat
open Go.RowKit
set_option maxRecDepth 100000
set_option maxHeartbeats 1000000

theorem part_any (k n : Int) (w : World) (hn : n = 6 ∨ n = 7) (h1 : -9223372036854775808 ≤ k) (h2 : k ≤ 9223372036854775807) :
    Calls Tryz.prog 21 #[.int .i64 k, .int .i64 n] w fun e w' => e = .returned (.int .i64 (k % n)) ∧ w = w' := by
  have hn0 : 0 < n := by omega
  have hn1 : n ≤ 1000 := by omega
  have hne : n ≠ 0 := by omega
  have hne' : (n == 0) = false := by simpa using hne
  have hm1 : -n < k.tmod n := by have := Int.lt_tmod_of_pos k hn0; omega
  have hm2 : k.tmod n < n := Int.tmod_lt_of_pos k hn0
  by_cases hneg : k.tmod n < 0
  · have hfin : k.tmod n + n = k % n := by
      have := Int.mul_tdiv_add_tmod k n
      generalize k.tdiv n = q at this
      generalize k.tmod n = r at *
      rcases hn with rfl | rfl <;> omega
    have HF := Lib.hid hfin
    clear hfin hn
    go_enter Tryz.func21, Tryz.ntmps21
    go_wp2
    go_ret
    exact ⟨by rw [← HF.out]; rfl, rfl⟩
  · have hfin : k.tmod n = k % n := by
      have := Int.mul_tdiv_add_tmod k n
      generalize k.tdiv n = q at this
      generalize k.tmod n = r at *
      rcases hn with rfl | rfl <;> omega
    have HF := Lib.hid hfin
    clear hfin hn
    go_enter Tryz.func21, Tryz.ntmps21
    go_wp2
    go_ret
    exact ⟨by rw [← HF.out]; rfl, rfl⟩

/-- The errors that a value may be. -/
def errNames : List ByteArray := [(⟨#[35, 68, 73, 86, 47, 48, 33]⟩ : ByteArray), (⟨#[35, 78, 47, 65]⟩ : ByteArray), (⟨#[35, 86, 65, 76, 85, 69, 33]⟩ : ByteArray), (⟨#[35, 82, 69, 70, 33]⟩ : ByteArray), (⟨#[35, 78, 65, 77, 69, 63]⟩ : ByteArray), (⟨#[35, 78, 85, 77, 33]⟩ : ByteArray), (⟨#[35, 78, 85, 76, 76, 33]⟩ : ByteArray)]
/-- A value that a cell with the text s may be. -/
def Fv.From (s : ByteArray) (x : Fv) : Prop := x.Ok ∧ (x.k = 4 → x.s ∈ errNames) ∧ (x.k = 2 → x.s = s) ∧ ((x.k = 0 ∨ x.k = 1 ∨ x.k = 3) → x.s = ⟨#[]⟩) ∧ (x.k ≠ 1 → x.d = 0) ∧ (x.k ≠ 1 → x.k ≠ 3 → x.n = 0)
def ValPost (s : ByteArray) (w : World) (e : Ending) (w' : World) : Prop := ∃ x : Fv, x.From s ∧ e = .returned (.agg #[.int .i64 x.k, .int .i64 x.n, .int .i64 x.d, .string x.s, .slice none 0 0]) ∧ Below w.heap.size w w'

theorem FracPost.from {n d : Int} {w : World} {e : Ending} {w' : World} (h : FracPost n d w e w') (s : ByteArray) : ∃ x : Fv, x.From s ∧ e = .returned (.agg #[.int .i64 x.k, .int .i64 x.n, .int .i64 x.d, .string x.s, .slice none 0 0]) ∧ Below w.heap.size w w' := by
  obtain ⟨h, hb⟩ := h
  split at h
  · exact ⟨⟨6, 0, 0, ⟨#[]⟩⟩, ⟨.inl (.inr (.inr (.inr rfl))), by simp, by simp, by simp, by simp, by simp⟩, h, hb⟩
  · rename_i r hr
    exact ⟨⟨1, r.1, r.2, ⟨#[]⟩⟩, ⟨frac_ok hr, by simp, by simp, by simp, by simp, by simp⟩, h, hb⟩

theorem mod_six (a : Int) : a % 6 = 0 ∨ a % 6 = 1 ∨ a % 6 = 2 ∨ a % 6 = 3 ∨ a % 6 = 4 ∨ a % 6 = 5 := by omega
theorem mod_seven (a : Int) : a % 7 = 0 ∨ a % 7 = 1 ∨ a % 7 = 2 ∨ a % 7 = 3 ∨ a % 7 = 4 ∨ a % 7 = 5 ∨ a % 7 = 6 := by omega

set_option maxHeartbeats 4000000 in
theorem val_any (k n : Int) (s : ByteArray) (w : World) (hk1 : -9223372036854775808 ≤ k) (hk2 : k ≤ 9223372036854775807) (h1 : -9223372036854775808 ≤ n) (h2 : n ≤ 9223372036854775807) :
    Calls Tryz.prog 22 #[.agg #[.int .i64 k, .int .i64 n, .string s]] w (ValPost s w) := by
  have z0 := Zero5.new (w.alloc (.cells #[.int .i64 k, .int .i64 n, .string s] 54))
  simp only [World.size_alloc] at z0
  have hbA : Below w.heap.size w ((w.alloc (.cells #[.int .i64 k, .int .i64 n, .string s] 54)).alloc (.cells #[.int .i64 0, .int .i64 0, .int .i64 0, .string ⟨#[]⟩, .slice none 0 0] 27)) := ((Below.refl _ _).alloc (Nat.le_refl _) _).alloc (by simp) _
  have ZB := Lib.hid (And.intro z0 hbA)
  clear z0 hbA
  have HK := Lib.hid (And.intro (And.intro hk1 hk2) (And.intro h1 h2))
  rcases mod_six k with h | h | h | h | h | h
  · go_enter Tryz.func22, Tryz.ntmps22
    go_wp2_with fail
    refine (part_any k 6 _ (.inl rfl) HK.out.1.1 HK.out.1.2).mono ?_
    rintro e w0 ⟨rfl, rfl⟩
    have hlt : w.heap.size + 1 < (w.alloc (.cells #[.int .i64 k, .int .i64 n, .string s] 54)).heap.size + 1 := by simp
    obtain ⟨z0, hbA⟩ := ZB.out
    clear ZB
    go_wp2
    exact bodyPost_ret (v := (.agg #[.int .i64 0, .int .i64 0, .int .i64 0, .string ⟨#[]⟩, .slice none 0 0])) (by simp [results, Tryz.results22, go_sem]) rfl ⟨⟨0, 0, 0, ⟨#[]⟩⟩, ⟨.inl (.inl rfl), by simp, by simp, by simp, by simp, by simp⟩, rfl, (by (repeat' (first | with_reducible exact Below.refl _ _ | with_reducible refine Below.setCell ?_ ?_ _ | with_reducible refine Below.alloc ?_ ?_ _ | with_reducible refine Below.drew ?_ | with_reducible refine Below.trans ?_ (Below.mono (by assumption) ?_))); all_goals (first | omega | (simp [World.setCell]; done) | (simp [World.setCell]; omega)))⟩
  · by_cases hbig : 99999999999 < n ∨ n < -99999999999
    · have HBIG := Lib.hid hbig
      clear hbig
      go_enter Tryz.func22, Tryz.ntmps22
      go_wp2_with fail
      refine (part_any k 6 _ (.inl rfl) HK.out.1.1 HK.out.1.2).mono ?_
      rintro e w0 ⟨rfl, rfl⟩
      go_wp2_with fail
      refine (int_big n _ HBIG.out).mono ?_
      rintro e w1 ⟨rfl, hb1⟩
      obtain ⟨z0, hbA⟩ := ZB.out
      obtain ⟨q, q0, q1, q2, q3, q4, qf⟩ := z0.below hb1
      have hbw := hbA.trans (hb1.mono (by simp; omega))
      clear z0 hbA hb1 ZB
      go_wp2
      exact bodyPost_ret (v := (.agg #[.int .i64 6, .int .i64 0, .int .i64 0, .string ⟨#[]⟩, .slice none 0 0])) (by simp [results, Tryz.results22, go_sem, q, q0, q1, q2, q3, q4, qf]) rfl ⟨⟨6, 0, 0, ⟨#[]⟩⟩, ⟨.inl (.inr (.inr (.inr rfl))), by simp, by simp, by simp, by simp, by simp⟩, rfl, (by (repeat' (first | with_reducible exact Below.refl _ _ | with_reducible refine Below.setCell ?_ ?_ _ | with_reducible refine Below.alloc ?_ ?_ _ | with_reducible refine Below.drew ?_ | with_reducible refine Below.trans ?_ (Below.mono (by assumption) ?_))); all_goals (first | omega | (simp [World.setCell]; done) | (simp [World.setCell]; omega)))⟩
    · have hlo : -99999999999 ≤ n := by omega
      have hhi : n ≤ 99999999999 := by omega
      have HLH := Lib.hid (And.intro hlo hhi)
      clear hbig hlo hhi
      go_enter Tryz.func22, Tryz.ntmps22
      go_wp2_with fail
      refine (part_any k 6 _ (.inl rfl) HK.out.1.1 HK.out.1.2).mono ?_
      rintro e w0 ⟨rfl, rfl⟩
      go_wp2_with fail
      refine (int_ok n _ HLH.out.2 HLH.out.1).mono ?_
      rintro e w1 ⟨rfl, hb1⟩
      obtain ⟨z0, hbA⟩ := ZB.out
      obtain ⟨q, q0, q1, q2, q3, q4, qf⟩ := z0.below hb1
      have hbw := hbA.trans (hb1.mono (by simp; omega))
      clear z0 hbA hb1 ZB
      go_wp2
      exact bodyPost_ret (v := (.agg #[.int .i64 1, .int .i64 n, .int .i64 1, .string ⟨#[]⟩, .slice none 0 0])) (by simp [results, Tryz.results22, go_sem, q, q0, q1, q2, q3, q4, qf]) rfl ⟨⟨1, n, 1, ⟨#[]⟩⟩, ⟨.inr (.inl ⟨rfl, HLH.out.1, HLH.out.2, (by simp [dens])⟩), by simp, by simp, by simp, by simp, by simp⟩, rfl, (by (repeat' (first | with_reducible exact Below.refl _ _ | with_reducible refine Below.setCell ?_ ?_ _ | with_reducible refine Below.alloc ?_ ?_ _ | with_reducible refine Below.drew ?_ | with_reducible refine Below.trans ?_ (Below.mono (by assumption) ?_))); all_goals (first | omega | (simp [World.setCell]; done) | (simp [World.setCell]; omega)))⟩
  · go_enter Tryz.func22, Tryz.ntmps22
    go_wp2_with fail
    refine (part_any k 6 _ (.inl rfl) HK.out.1.1 HK.out.1.2).mono ?_
    rintro e w0 ⟨rfl, rfl⟩
    go_wp2_with fail
    refine (frac_any _ 4 _ (by omega) (by omega)).mono ?_
    intro e w1 hp
    obtain ⟨x, hx, rfl, hb1⟩ := hp.from s
    have HX := Lib.hid hx
    clear hx hp
    obtain ⟨z0, hbA⟩ := ZB.out
    obtain ⟨q, q0, q1, q2, q3, q4, qf⟩ := z0.below hb1
    have hbw := hbA.trans (hb1.mono (by simp; omega))
    clear z0 hbA hb1 ZB
    go_wp2
    exact bodyPost_ret (v := (.agg #[.int .i64 x.k, .int .i64 x.n, .int .i64 x.d, .string x.s, .slice none 0 0])) (by simp [results, Tryz.results22, go_sem, q, q0, q1, q2, q3, q4, qf]) rfl ⟨x, HX.out, rfl, (by (repeat' (first | with_reducible exact Below.refl _ _ | with_reducible refine Below.setCell ?_ ?_ _ | with_reducible refine Below.alloc ?_ ?_ _ | with_reducible refine Below.drew ?_ | with_reducible refine Below.trans ?_ (Below.mono (by assumption) ?_))); all_goals (first | omega | (simp [World.setCell]; done) | (simp [World.setCell]; omega)))⟩
  · go_enter Tryz.func22, Tryz.ntmps22
    go_wp2_with fail
    refine (part_any k 6 _ (.inl rfl) HK.out.1.1 HK.out.1.2).mono ?_
    rintro e w0 ⟨rfl, rfl⟩
    go_wp2_with fail
    refine (str_any s _).mono ?_
    rintro e w1 ⟨rfl, hb1⟩
    obtain ⟨z0, hbA⟩ := ZB.out
    obtain ⟨q, q0, q1, q2, q3, q4, qf⟩ := z0.below hb1
    have hbw := hbA.trans (hb1.mono (by simp; omega))
    clear z0 hbA hb1 ZB
    go_wp2
    exact bodyPost_ret (v := (.agg #[.int .i64 2, .int .i64 0, .int .i64 0, .string s, .slice none 0 0])) (by simp [results, Tryz.results22, go_sem, q, q0, q1, q2, q3, q4, qf]) rfl ⟨⟨2, 0, 0, s⟩, ⟨.inl (.inr (.inl rfl)), by simp, by simp, by simp, by simp, by simp⟩, rfl, (by (repeat' (first | with_reducible exact Below.refl _ _ | with_reducible refine Below.setCell ?_ ?_ _ | with_reducible refine Below.alloc ?_ ?_ _ | with_reducible refine Below.drew ?_ | with_reducible refine Below.trans ?_ (Below.mono (by assumption) ?_))); all_goals (first | omega | (simp [World.setCell]; done) | (simp [World.setCell]; omega)))⟩
  · by_cases hm : n.tmod 2 = 0
    · have hm2 : (n.tmod 2 != 0) = false := by simp [hm]
      clear hm
      go_enter Tryz.func22, Tryz.ntmps22
      go_wp2_with fail
      refine (part_any k 6 _ (.inl rfl) HK.out.1.1 HK.out.1.2).mono ?_
      rintro e w0 ⟨rfl, rfl⟩
      go_wp2_with fail
      go_fit (bool_any false _)
      rintro e w1 ⟨rfl, hb1⟩
      obtain ⟨z0, hbA⟩ := ZB.out
      obtain ⟨q, q0, q1, q2, q3, q4, qf⟩ := z0.below hb1
      have hbw := hbA.trans (hb1.mono (by simp; omega))
      clear z0 hbA hb1 ZB
      go_wp2
      exact bodyPost_ret (v := (.agg #[.int .i64 3, .int .i64 0, .int .i64 0, .string ⟨#[]⟩, .slice none 0 0])) (by simp [results, Tryz.results22, go_sem, q, q0, q1, q2, q3, q4, qf]) rfl ⟨⟨3, 0, 0, ⟨#[]⟩⟩, ⟨.inr (.inr ⟨rfl, .inl rfl⟩), by simp, by simp, by simp, by simp, by simp⟩, rfl, (by (repeat' (first | with_reducible exact Below.refl _ _ | with_reducible refine Below.setCell ?_ ?_ _ | with_reducible refine Below.alloc ?_ ?_ _ | with_reducible refine Below.drew ?_ | with_reducible refine Below.trans ?_ (Below.mono (by assumption) ?_))); all_goals (first | omega | (simp [World.setCell]; done) | (simp [World.setCell]; omega)))⟩
    · have hm2 : (n.tmod 2 != 0) = true := by simpa using hm
      clear hm
      go_enter Tryz.func22, Tryz.ntmps22
      go_wp2_with fail
      refine (part_any k 6 _ (.inl rfl) HK.out.1.1 HK.out.1.2).mono ?_
      rintro e w0 ⟨rfl, rfl⟩
      go_wp2_with fail
      go_fit (bool_any true _)
      rintro e w1 ⟨rfl, hb1⟩
      obtain ⟨z0, hbA⟩ := ZB.out
      obtain ⟨q, q0, q1, q2, q3, q4, qf⟩ := z0.below hb1
      have hbw := hbA.trans (hb1.mono (by simp; omega))
      clear z0 hbA hb1 ZB
      go_wp2
      exact bodyPost_ret (v := (.agg #[.int .i64 3, .int .i64 1, .int .i64 0, .string ⟨#[]⟩, .slice none 0 0])) (by simp [results, Tryz.results22, go_sem, q, q0, q1, q2, q3, q4, qf]) rfl ⟨⟨3, 1, 0, ⟨#[]⟩⟩, ⟨.inr (.inr ⟨rfl, .inr rfl⟩), by simp, by simp, by simp, by simp, by simp⟩, rfl, (by (repeat' (first | with_reducible exact Below.refl _ _ | with_reducible refine Below.setCell ?_ ?_ _ | with_reducible refine Below.alloc ?_ ?_ _ | with_reducible refine Below.drew ?_ | with_reducible refine Below.trans ?_ (Below.mono (by assumption) ?_))); all_goals (first | omega | (simp [World.setCell]; done) | (simp [World.setCell]; omega)))⟩
  · rcases mod_seven n with h7 | h7 | h7 | h7 | h7 | h7 | h7
    · go_enter Tryz.func22, Tryz.ntmps22
      go_wp2_with fail
      refine (part_any k 6 _ (.inl rfl) HK.out.1.1 HK.out.1.2).mono ?_
      rintro e w0 ⟨rfl, rfl⟩
      go_wp2_with fail
      refine (part_any n 7 _ (.inr rfl) HK.out.2.1 HK.out.2.2).mono ?_
      rintro e w0 ⟨rfl, rfl⟩
      go_wp2_with fail
      go_fit (err_any (⟨#[35, 68, 73, 86, 47, 48, 33]⟩ : ByteArray) _)
      rintro e w1 ⟨rfl, hb1⟩
      obtain ⟨z00, hbA0⟩ := ZB.out
      have hbA := hbA0.alloc (by simp; omega) (.cells #[.string (⟨#[35, 68, 73, 86, 47, 48, 33]⟩ : ByteArray), .string (⟨#[35, 78, 47, 65]⟩ : ByteArray), .string (⟨#[35, 86, 65, 76, 85, 69, 33]⟩ : ByteArray), .string (⟨#[35, 82, 69, 70, 33]⟩ : ByteArray), .string (⟨#[35, 78, 65, 77, 69, 63]⟩ : ByteArray), .string (⟨#[35, 78, 85, 77, 33]⟩ : ByteArray), .string (⟨#[35, 78, 85, 76, 76, 33]⟩ : ByteArray)] 9)
      have z0 := z00.below ((Below.refl _ _).alloc (Nat.le_refl _) (.cells #[.string (⟨#[35, 68, 73, 86, 47, 48, 33]⟩ : ByteArray), .string (⟨#[35, 78, 47, 65]⟩ : ByteArray), .string (⟨#[35, 86, 65, 76, 85, 69, 33]⟩ : ByteArray), .string (⟨#[35, 82, 69, 70, 33]⟩ : ByteArray), .string (⟨#[35, 78, 65, 77, 69, 63]⟩ : ByteArray), .string (⟨#[35, 78, 85, 77, 33]⟩ : ByteArray), .string (⟨#[35, 78, 85, 76, 76, 33]⟩ : ByteArray)] 9))
      obtain ⟨q, q0, q1, q2, q3, q4, qf⟩ := z0.below hb1
      have hbw := hbA.trans (hb1.mono (by simp; omega))
      clear z0 z00 hbA hbA0 hb1 ZB
      go_wp2
      exact bodyPost_ret (v := (.agg #[.int .i64 4, .int .i64 0, .int .i64 0, .string (⟨#[35, 68, 73, 86, 47, 48, 33]⟩ : ByteArray), .slice none 0 0])) (by simp [results, Tryz.results22, go_sem, q, q0, q1, q2, q3, q4, qf]) rfl ⟨⟨4, 0, 0, (⟨#[35, 68, 73, 86, 47, 48, 33]⟩ : ByteArray)⟩, ⟨.inl (.inr (.inr (.inl rfl))), by simp [errNames], by simp, by simp, by simp, by simp⟩, rfl, (by (repeat' (first | with_reducible exact Below.refl _ _ | with_reducible refine Below.setCell ?_ ?_ _ | with_reducible refine Below.alloc ?_ ?_ _ | with_reducible refine Below.drew ?_ | with_reducible refine Below.trans ?_ (Below.mono (by assumption) ?_))); all_goals (first | omega | (simp [World.setCell]; done) | (simp [World.setCell]; omega)))⟩
    · go_enter Tryz.func22, Tryz.ntmps22
      go_wp2_with fail
      refine (part_any k 6 _ (.inl rfl) HK.out.1.1 HK.out.1.2).mono ?_
      rintro e w0 ⟨rfl, rfl⟩
      go_wp2_with fail
      refine (part_any n 7 _ (.inr rfl) HK.out.2.1 HK.out.2.2).mono ?_
      rintro e w0 ⟨rfl, rfl⟩
      go_wp2_with fail
      go_fit (err_any (⟨#[35, 78, 47, 65]⟩ : ByteArray) _)
      rintro e w1 ⟨rfl, hb1⟩
      obtain ⟨z00, hbA0⟩ := ZB.out
      have hbA := hbA0.alloc (by simp; omega) (.cells #[.string (⟨#[35, 68, 73, 86, 47, 48, 33]⟩ : ByteArray), .string (⟨#[35, 78, 47, 65]⟩ : ByteArray), .string (⟨#[35, 86, 65, 76, 85, 69, 33]⟩ : ByteArray), .string (⟨#[35, 82, 69, 70, 33]⟩ : ByteArray), .string (⟨#[35, 78, 65, 77, 69, 63]⟩ : ByteArray), .string (⟨#[35, 78, 85, 77, 33]⟩ : ByteArray), .string (⟨#[35, 78, 85, 76, 76, 33]⟩ : ByteArray)] 9)
      have z0 := z00.below ((Below.refl _ _).alloc (Nat.le_refl _) (.cells #[.string (⟨#[35, 68, 73, 86, 47, 48, 33]⟩ : ByteArray), .string (⟨#[35, 78, 47, 65]⟩ : ByteArray), .string (⟨#[35, 86, 65, 76, 85, 69, 33]⟩ : ByteArray), .string (⟨#[35, 82, 69, 70, 33]⟩ : ByteArray), .string (⟨#[35, 78, 65, 77, 69, 63]⟩ : ByteArray), .string (⟨#[35, 78, 85, 77, 33]⟩ : ByteArray), .string (⟨#[35, 78, 85, 76, 76, 33]⟩ : ByteArray)] 9))
      obtain ⟨q, q0, q1, q2, q3, q4, qf⟩ := z0.below hb1
      have hbw := hbA.trans (hb1.mono (by simp; omega))
      clear z0 z00 hbA hbA0 hb1 ZB
      go_wp2
      exact bodyPost_ret (v := (.agg #[.int .i64 4, .int .i64 0, .int .i64 0, .string (⟨#[35, 78, 47, 65]⟩ : ByteArray), .slice none 0 0])) (by simp [results, Tryz.results22, go_sem, q, q0, q1, q2, q3, q4, qf]) rfl ⟨⟨4, 0, 0, (⟨#[35, 78, 47, 65]⟩ : ByteArray)⟩, ⟨.inl (.inr (.inr (.inl rfl))), by simp [errNames], by simp, by simp, by simp, by simp⟩, rfl, (by (repeat' (first | with_reducible exact Below.refl _ _ | with_reducible refine Below.setCell ?_ ?_ _ | with_reducible refine Below.alloc ?_ ?_ _ | with_reducible refine Below.drew ?_ | with_reducible refine Below.trans ?_ (Below.mono (by assumption) ?_))); all_goals (first | omega | (simp [World.setCell]; done) | (simp [World.setCell]; omega)))⟩
    · go_enter Tryz.func22, Tryz.ntmps22
      go_wp2_with fail
      refine (part_any k 6 _ (.inl rfl) HK.out.1.1 HK.out.1.2).mono ?_
      rintro e w0 ⟨rfl, rfl⟩
      go_wp2_with fail
      refine (part_any n 7 _ (.inr rfl) HK.out.2.1 HK.out.2.2).mono ?_
      rintro e w0 ⟨rfl, rfl⟩
      go_wp2_with fail
      go_fit (err_any (⟨#[35, 86, 65, 76, 85, 69, 33]⟩ : ByteArray) _)
      rintro e w1 ⟨rfl, hb1⟩
      obtain ⟨z00, hbA0⟩ := ZB.out
      have hbA := hbA0.alloc (by simp; omega) (.cells #[.string (⟨#[35, 68, 73, 86, 47, 48, 33]⟩ : ByteArray), .string (⟨#[35, 78, 47, 65]⟩ : ByteArray), .string (⟨#[35, 86, 65, 76, 85, 69, 33]⟩ : ByteArray), .string (⟨#[35, 82, 69, 70, 33]⟩ : ByteArray), .string (⟨#[35, 78, 65, 77, 69, 63]⟩ : ByteArray), .string (⟨#[35, 78, 85, 77, 33]⟩ : ByteArray), .string (⟨#[35, 78, 85, 76, 76, 33]⟩ : ByteArray)] 9)
      have z0 := z00.below ((Below.refl _ _).alloc (Nat.le_refl _) (.cells #[.string (⟨#[35, 68, 73, 86, 47, 48, 33]⟩ : ByteArray), .string (⟨#[35, 78, 47, 65]⟩ : ByteArray), .string (⟨#[35, 86, 65, 76, 85, 69, 33]⟩ : ByteArray), .string (⟨#[35, 82, 69, 70, 33]⟩ : ByteArray), .string (⟨#[35, 78, 65, 77, 69, 63]⟩ : ByteArray), .string (⟨#[35, 78, 85, 77, 33]⟩ : ByteArray), .string (⟨#[35, 78, 85, 76, 76, 33]⟩ : ByteArray)] 9))
      obtain ⟨q, q0, q1, q2, q3, q4, qf⟩ := z0.below hb1
      have hbw := hbA.trans (hb1.mono (by simp; omega))
      clear z0 z00 hbA hbA0 hb1 ZB
      go_wp2
      exact bodyPost_ret (v := (.agg #[.int .i64 4, .int .i64 0, .int .i64 0, .string (⟨#[35, 86, 65, 76, 85, 69, 33]⟩ : ByteArray), .slice none 0 0])) (by simp [results, Tryz.results22, go_sem, q, q0, q1, q2, q3, q4, qf]) rfl ⟨⟨4, 0, 0, (⟨#[35, 86, 65, 76, 85, 69, 33]⟩ : ByteArray)⟩, ⟨.inl (.inr (.inr (.inl rfl))), by simp [errNames], by simp, by simp, by simp, by simp⟩, rfl, (by (repeat' (first | with_reducible exact Below.refl _ _ | with_reducible refine Below.setCell ?_ ?_ _ | with_reducible refine Below.alloc ?_ ?_ _ | with_reducible refine Below.drew ?_ | with_reducible refine Below.trans ?_ (Below.mono (by assumption) ?_))); all_goals (first | omega | (simp [World.setCell]; done) | (simp [World.setCell]; omega)))⟩
    · go_enter Tryz.func22, Tryz.ntmps22
      go_wp2_with fail
      refine (part_any k 6 _ (.inl rfl) HK.out.1.1 HK.out.1.2).mono ?_
      rintro e w0 ⟨rfl, rfl⟩
      go_wp2_with fail
      refine (part_any n 7 _ (.inr rfl) HK.out.2.1 HK.out.2.2).mono ?_
      rintro e w0 ⟨rfl, rfl⟩
      go_wp2_with fail
      go_fit (err_any (⟨#[35, 82, 69, 70, 33]⟩ : ByteArray) _)
      rintro e w1 ⟨rfl, hb1⟩
      obtain ⟨z00, hbA0⟩ := ZB.out
      have hbA := hbA0.alloc (by simp; omega) (.cells #[.string (⟨#[35, 68, 73, 86, 47, 48, 33]⟩ : ByteArray), .string (⟨#[35, 78, 47, 65]⟩ : ByteArray), .string (⟨#[35, 86, 65, 76, 85, 69, 33]⟩ : ByteArray), .string (⟨#[35, 82, 69, 70, 33]⟩ : ByteArray), .string (⟨#[35, 78, 65, 77, 69, 63]⟩ : ByteArray), .string (⟨#[35, 78, 85, 77, 33]⟩ : ByteArray), .string (⟨#[35, 78, 85, 76, 76, 33]⟩ : ByteArray)] 9)
      have z0 := z00.below ((Below.refl _ _).alloc (Nat.le_refl _) (.cells #[.string (⟨#[35, 68, 73, 86, 47, 48, 33]⟩ : ByteArray), .string (⟨#[35, 78, 47, 65]⟩ : ByteArray), .string (⟨#[35, 86, 65, 76, 85, 69, 33]⟩ : ByteArray), .string (⟨#[35, 82, 69, 70, 33]⟩ : ByteArray), .string (⟨#[35, 78, 65, 77, 69, 63]⟩ : ByteArray), .string (⟨#[35, 78, 85, 77, 33]⟩ : ByteArray), .string (⟨#[35, 78, 85, 76, 76, 33]⟩ : ByteArray)] 9))
      obtain ⟨q, q0, q1, q2, q3, q4, qf⟩ := z0.below hb1
      have hbw := hbA.trans (hb1.mono (by simp; omega))
      clear z0 z00 hbA hbA0 hb1 ZB
      go_wp2
      exact bodyPost_ret (v := (.agg #[.int .i64 4, .int .i64 0, .int .i64 0, .string (⟨#[35, 82, 69, 70, 33]⟩ : ByteArray), .slice none 0 0])) (by simp [results, Tryz.results22, go_sem, q, q0, q1, q2, q3, q4, qf]) rfl ⟨⟨4, 0, 0, (⟨#[35, 82, 69, 70, 33]⟩ : ByteArray)⟩, ⟨.inl (.inr (.inr (.inl rfl))), by simp [errNames], by simp, by simp, by simp, by simp⟩, rfl, (by (repeat' (first | with_reducible exact Below.refl _ _ | with_reducible refine Below.setCell ?_ ?_ _ | with_reducible refine Below.alloc ?_ ?_ _ | with_reducible refine Below.drew ?_ | with_reducible refine Below.trans ?_ (Below.mono (by assumption) ?_))); all_goals (first | omega | (simp [World.setCell]; done) | (simp [World.setCell]; omega)))⟩
    · go_enter Tryz.func22, Tryz.ntmps22
      go_wp2_with fail
      refine (part_any k 6 _ (.inl rfl) HK.out.1.1 HK.out.1.2).mono ?_
      rintro e w0 ⟨rfl, rfl⟩
      go_wp2_with fail
      refine (part_any n 7 _ (.inr rfl) HK.out.2.1 HK.out.2.2).mono ?_
      rintro e w0 ⟨rfl, rfl⟩
      go_wp2_with fail
      go_fit (err_any (⟨#[35, 78, 65, 77, 69, 63]⟩ : ByteArray) _)
      rintro e w1 ⟨rfl, hb1⟩
      obtain ⟨z00, hbA0⟩ := ZB.out
      have hbA := hbA0.alloc (by simp; omega) (.cells #[.string (⟨#[35, 68, 73, 86, 47, 48, 33]⟩ : ByteArray), .string (⟨#[35, 78, 47, 65]⟩ : ByteArray), .string (⟨#[35, 86, 65, 76, 85, 69, 33]⟩ : ByteArray), .string (⟨#[35, 82, 69, 70, 33]⟩ : ByteArray), .string (⟨#[35, 78, 65, 77, 69, 63]⟩ : ByteArray), .string (⟨#[35, 78, 85, 77, 33]⟩ : ByteArray), .string (⟨#[35, 78, 85, 76, 76, 33]⟩ : ByteArray)] 9)
      have z0 := z00.below ((Below.refl _ _).alloc (Nat.le_refl _) (.cells #[.string (⟨#[35, 68, 73, 86, 47, 48, 33]⟩ : ByteArray), .string (⟨#[35, 78, 47, 65]⟩ : ByteArray), .string (⟨#[35, 86, 65, 76, 85, 69, 33]⟩ : ByteArray), .string (⟨#[35, 82, 69, 70, 33]⟩ : ByteArray), .string (⟨#[35, 78, 65, 77, 69, 63]⟩ : ByteArray), .string (⟨#[35, 78, 85, 77, 33]⟩ : ByteArray), .string (⟨#[35, 78, 85, 76, 76, 33]⟩ : ByteArray)] 9))
      obtain ⟨q, q0, q1, q2, q3, q4, qf⟩ := z0.below hb1
      have hbw := hbA.trans (hb1.mono (by simp; omega))
      clear z0 z00 hbA hbA0 hb1 ZB
      go_wp2
      exact bodyPost_ret (v := (.agg #[.int .i64 4, .int .i64 0, .int .i64 0, .string (⟨#[35, 78, 65, 77, 69, 63]⟩ : ByteArray), .slice none 0 0])) (by simp [results, Tryz.results22, go_sem, q, q0, q1, q2, q3, q4, qf]) rfl ⟨⟨4, 0, 0, (⟨#[35, 78, 65, 77, 69, 63]⟩ : ByteArray)⟩, ⟨.inl (.inr (.inr (.inl rfl))), by simp [errNames], by simp, by simp, by simp, by simp⟩, rfl, (by (repeat' (first | with_reducible exact Below.refl _ _ | with_reducible refine Below.setCell ?_ ?_ _ | with_reducible refine Below.alloc ?_ ?_ _ | with_reducible refine Below.drew ?_ | with_reducible refine Below.trans ?_ (Below.mono (by assumption) ?_))); all_goals (first | omega | (simp [World.setCell]; done) | (simp [World.setCell]; omega)))⟩
    · go_enter Tryz.func22, Tryz.ntmps22
      go_wp2_with fail
      refine (part_any k 6 _ (.inl rfl) HK.out.1.1 HK.out.1.2).mono ?_
      rintro e w0 ⟨rfl, rfl⟩
      go_wp2_with fail
      refine (part_any n 7 _ (.inr rfl) HK.out.2.1 HK.out.2.2).mono ?_
      rintro e w0 ⟨rfl, rfl⟩
      go_wp2_with fail
      go_fit (err_any (⟨#[35, 78, 85, 77, 33]⟩ : ByteArray) _)
      rintro e w1 ⟨rfl, hb1⟩
      obtain ⟨z00, hbA0⟩ := ZB.out
      have hbA := hbA0.alloc (by simp; omega) (.cells #[.string (⟨#[35, 68, 73, 86, 47, 48, 33]⟩ : ByteArray), .string (⟨#[35, 78, 47, 65]⟩ : ByteArray), .string (⟨#[35, 86, 65, 76, 85, 69, 33]⟩ : ByteArray), .string (⟨#[35, 82, 69, 70, 33]⟩ : ByteArray), .string (⟨#[35, 78, 65, 77, 69, 63]⟩ : ByteArray), .string (⟨#[35, 78, 85, 77, 33]⟩ : ByteArray), .string (⟨#[35, 78, 85, 76, 76, 33]⟩ : ByteArray)] 9)
      have z0 := z00.below ((Below.refl _ _).alloc (Nat.le_refl _) (.cells #[.string (⟨#[35, 68, 73, 86, 47, 48, 33]⟩ : ByteArray), .string (⟨#[35, 78, 47, 65]⟩ : ByteArray), .string (⟨#[35, 86, 65, 76, 85, 69, 33]⟩ : ByteArray), .string (⟨#[35, 82, 69, 70, 33]⟩ : ByteArray), .string (⟨#[35, 78, 65, 77, 69, 63]⟩ : ByteArray), .string (⟨#[35, 78, 85, 77, 33]⟩ : ByteArray), .string (⟨#[35, 78, 85, 76, 76, 33]⟩ : ByteArray)] 9))
      obtain ⟨q, q0, q1, q2, q3, q4, qf⟩ := z0.below hb1
      have hbw := hbA.trans (hb1.mono (by simp; omega))
      clear z0 z00 hbA hbA0 hb1 ZB
      go_wp2
      exact bodyPost_ret (v := (.agg #[.int .i64 4, .int .i64 0, .int .i64 0, .string (⟨#[35, 78, 85, 77, 33]⟩ : ByteArray), .slice none 0 0])) (by simp [results, Tryz.results22, go_sem, q, q0, q1, q2, q3, q4, qf]) rfl ⟨⟨4, 0, 0, (⟨#[35, 78, 85, 77, 33]⟩ : ByteArray)⟩, ⟨.inl (.inr (.inr (.inl rfl))), by simp [errNames], by simp, by simp, by simp, by simp⟩, rfl, (by (repeat' (first | with_reducible exact Below.refl _ _ | with_reducible refine Below.setCell ?_ ?_ _ | with_reducible refine Below.alloc ?_ ?_ _ | with_reducible refine Below.drew ?_ | with_reducible refine Below.trans ?_ (Below.mono (by assumption) ?_))); all_goals (first | omega | (simp [World.setCell]; done) | (simp [World.setCell]; omega)))⟩
    · go_enter Tryz.func22, Tryz.ntmps22
      go_wp2_with fail
      refine (part_any k 6 _ (.inl rfl) HK.out.1.1 HK.out.1.2).mono ?_
      rintro e w0 ⟨rfl, rfl⟩
      go_wp2_with fail
      refine (part_any n 7 _ (.inr rfl) HK.out.2.1 HK.out.2.2).mono ?_
      rintro e w0 ⟨rfl, rfl⟩
      go_wp2_with fail
      go_fit (err_any (⟨#[35, 78, 85, 76, 76, 33]⟩ : ByteArray) _)
      rintro e w1 ⟨rfl, hb1⟩
      obtain ⟨z00, hbA0⟩ := ZB.out
      have hbA := hbA0.alloc (by simp; omega) (.cells #[.string (⟨#[35, 68, 73, 86, 47, 48, 33]⟩ : ByteArray), .string (⟨#[35, 78, 47, 65]⟩ : ByteArray), .string (⟨#[35, 86, 65, 76, 85, 69, 33]⟩ : ByteArray), .string (⟨#[35, 82, 69, 70, 33]⟩ : ByteArray), .string (⟨#[35, 78, 65, 77, 69, 63]⟩ : ByteArray), .string (⟨#[35, 78, 85, 77, 33]⟩ : ByteArray), .string (⟨#[35, 78, 85, 76, 76, 33]⟩ : ByteArray)] 9)
      have z0 := z00.below ((Below.refl _ _).alloc (Nat.le_refl _) (.cells #[.string (⟨#[35, 68, 73, 86, 47, 48, 33]⟩ : ByteArray), .string (⟨#[35, 78, 47, 65]⟩ : ByteArray), .string (⟨#[35, 86, 65, 76, 85, 69, 33]⟩ : ByteArray), .string (⟨#[35, 82, 69, 70, 33]⟩ : ByteArray), .string (⟨#[35, 78, 65, 77, 69, 63]⟩ : ByteArray), .string (⟨#[35, 78, 85, 77, 33]⟩ : ByteArray), .string (⟨#[35, 78, 85, 76, 76, 33]⟩ : ByteArray)] 9))
      obtain ⟨q, q0, q1, q2, q3, q4, qf⟩ := z0.below hb1
      have hbw := hbA.trans (hb1.mono (by simp; omega))
      clear z0 z00 hbA hbA0 hb1 ZB
      go_wp2
      exact bodyPost_ret (v := (.agg #[.int .i64 4, .int .i64 0, .int .i64 0, .string (⟨#[35, 78, 85, 76, 76, 33]⟩ : ByteArray), .slice none 0 0])) (by simp [results, Tryz.results22, go_sem, q, q0, q1, q2, q3, q4, qf]) rfl ⟨⟨4, 0, 0, (⟨#[35, 78, 85, 76, 76, 33]⟩ : ByteArray)⟩, ⟨.inl (.inr (.inr (.inl rfl))), by simp [errNames], by simp, by simp, by simp, by simp⟩, rfl, (by (repeat' (first | with_reducible exact Below.refl _ _ | with_reducible refine Below.setCell ?_ ?_ _ | with_reducible refine Below.alloc ?_ ?_ _ | with_reducible refine Below.drew ?_ | with_reducible refine Below.trans ?_ (Below.mono (by assumption) ?_))); all_goals (first | omega | (simp [World.setCell]; done) | (simp [World.setCell]; omega)))⟩

end Go.Proofs.YtdpkjhohklfieaaGreat

