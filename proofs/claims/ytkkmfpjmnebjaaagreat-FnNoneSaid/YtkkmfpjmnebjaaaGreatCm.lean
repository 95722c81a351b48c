/- The arguments that the statements make: a value of any kind. -/
import Derived.Test.YtkkmfpjmnebjaaaGreatCk
import Derived.Test.YtkkmfpjmnebjaaaGreatW
import Derived.Test.YtkkmfpjmnebjaaaGreatZ
set_option linter.unusedSimpArgs false
set_option linter.unusedVariables false
namespace Go.Proofs.YtkkmfpjmnebjaaaGreat
open Go.RowKit
set_option maxRecDepth 100000
set_option maxHeartbeats 1000000

/-- The errors that a value may be. -/
def errNames : List ByteArray := [(⟨#[35, 78, 85, 76, 76, 33]⟩ : ByteArray), (⟨#[35, 68, 73, 86, 47, 48, 33]⟩ : ByteArray), (⟨#[35, 86, 65, 76, 85, 69, 33]⟩ : ByteArray), (⟨#[35, 82, 69, 70, 33]⟩ : ByteArray), (⟨#[35, 78, 65, 77, 69, 63]⟩ : ByteArray), (⟨#[35, 78, 85, 77, 33]⟩ : ByteArray), (⟨#[35, 78, 47, 65]⟩ : ByteArray)]
/-- A value that a statement makes out of a text s. -/
def Fv.Made (s : ByteArray) (x : Fv) : Prop := x.Ok ∧ (x.k = 4 → x.s ∈ errNames) ∧ (x.k = 2 → x.s = s) ∧ (x.k = 1 ∨ x.k = 3 → x.s = ⟨#[]⟩)
def ArgPost (s : ByteArray) (w : World) (e : Ending) (w' : World) : Prop := ∃ x : Fv, x.Made s ∧ e = .returned (.agg #[.int .i64 x.k, .int .i64 x.n, .int .i64 x.d, .string x.s, .slice none 0 0]) ∧ Below w.heap.size w w'

theorem FracPost.made {n d : Int} {w : World} {e : Ending} {w' : World} (h : FracPost n d w e w') : ∃ x : Fv, x.Ok ∧ ((x.k = 1 ∨ x.k = 6) ∧ x.s = ⟨#[]⟩) ∧ e = .returned (.agg #[.int .i64 x.k, .int .i64 x.n, .int .i64 x.d, .string x.s, .slice none 0 0]) ∧ Below w.heap.size w w' := by
  obtain ⟨h, hb⟩ := h
  split at h
  · exact ⟨⟨6, 0, 0, ⟨#[]⟩⟩, .inl (.inr (.inr (.inr rfl))), ⟨.inr rfl, rfl⟩, h, hb⟩
  · rename_i r hr
    exact ⟨⟨1, r.1, r.2, ⟨#[]⟩⟩, frac_ok hr, ⟨.inl rfl, rfl⟩, h, hb⟩

theorem Fv.made_num {x : Fv} (h : x.Ok) (hk : (x.k = 1 ∨ x.k = 6) ∧ x.s = ⟨#[]⟩) (s : ByteArray) : x.Made s := ⟨h, fun h4 => by omega, fun h2 => by omega, fun _ => hk.2⟩

theorem argPart_any (n : Int) (w : World) :
    Calls Tryz.prog 49 #[.int .i64 n] w fun e w' => ∃ x : Fv, x.Ok ∧ ((x.k = 1 ∨ x.k = 6) ∧ x.s = ⟨#[]⟩) ∧ e = .returned (.agg #[.int .i64 x.k, .int .i64 x.n, .int .i64 x.d, .string x.s, .slice none 0 0]) ∧ Below w.heap.size w w' := by
  have z0 := Zero5.new w
  have hbA : Below w.heap.size w (w.alloc (.cells #[.int .i64 0, .int .i64 0, .int .i64 0, .string ⟨#[]⟩, .slice none 0 0] 27)) := (Below.refl _ _).alloc (Nat.le_refl _) _
  have ZB := Lib.hid (And.intro z0 hbA)
  clear z0 hbA
  go_enter Tryz.func49, Tryz.ntmps49
  go_wp2_with fail
  all_goals
    refine (frac_any _ 16 _ (by omega) (by omega)).mono ?_
    intro e w1 hp
    obtain ⟨x, hxo, hxk, rfl, hb1⟩ := hp.made
    obtain ⟨z0, hbA⟩ := ZB.out
    obtain ⟨q, q0, q1, q2, q3, q4, qf⟩ := z0.below hb1
    have hbw := hbA.trans (hb1.mono (by simp))
    have HXO := Lib.hid hxo
    have HXK := Lib.hid hxk
    clear hxo hxk z0 hbA hp hb1 ZB
    go_wp2
    exact bodyPost_ret (v := (.agg #[.int .i64 x.k, .int .i64 x.n, .int .i64 x.d, .string x.s, .slice none 0 0])) (by simp [results, Tryz.results49, go_sem, q, q0, q1, q2, q3, q4, qf]) rfl ⟨x, HXO.out, HXK.out, rfl, (by (repeat' (first | with_reducible exact Below.refl _ _ | with_reducible refine Below.setCell ?_ ?_ _ | with_reducible refine Below.alloc ?_ ?_ _ | with_reducible refine Below.drew ?_ | with_reducible refine Below.trans ?_ (Below.mono (by assumption) ?_))); all_goals (first | omega | (simp [World.setCell]; done) | (simp [World.setCell]; omega)))⟩

theorem wrap_seven (n : Int) : (IntKind.u64.wrap n).tmod 7 = 0 ∨ (IntKind.u64.wrap n).tmod 7 = 1 ∨ (IntKind.u64.wrap n).tmod 7 = 2 ∨ (IntKind.u64.wrap n).tmod 7 = 3 ∨ (IntKind.u64.wrap n).tmod 7 = 4 ∨ (IntKind.u64.wrap n).tmod 7 = 5 ∨ (IntKind.u64.wrap n).tmod 7 = 6 := by
  have h : 0 ≤ IntKind.u64.wrap n := by
    show 0 ≤ n % 18446744073709551616
    omega
  rw [Int.tmod_eq_emod_of_nonneg h]
  omega
theorem mod_six (a : Int) : a % 6 = 0 ∨ a % 6 = 1 ∨ a % 6 = 2 ∨ a % 6 = 3 ∨ a % 6 = 4 ∨ a % 6 = 5 := by omega

set_option maxHeartbeats 4000000 in
theorem argMade_any (a n : Int) (s : ByteArray) (w : World) (ha0 : 0 ≤ a) (ha1 : a ≤ 255) (h1 : -9223372036854775808 ≤ n) (h2 : n ≤ 9223372036854775807) :
    Calls Tryz.prog 18 #[.int .u8 a, .int .i64 n, .string s] w (ArgPost s w) := by
  have z0 := Zero5.new w
  have hbA : Below w.heap.size w (w.alloc (.cells #[.int .i64 0, .int .i64 0, .int .i64 0, .string ⟨#[]⟩, .slice none 0 0] 27)) := (Below.refl _ _).alloc (Nat.le_refl _) _
  have hbB : Below w.heap.size w ((w.alloc (.cells #[.int .i64 0, .int .i64 0, .int .i64 0, .string ⟨#[]⟩, .slice none 0 0] 27)).alloc (.cells #[.string (⟨#[35, 78, 85, 76, 76, 33]⟩ : ByteArray), .string (⟨#[35, 68, 73, 86, 47, 48, 33]⟩ : ByteArray), .string (⟨#[35, 86, 65, 76, 85, 69, 33]⟩ : ByteArray), .string (⟨#[35, 82, 69, 70, 33]⟩ : ByteArray), .string (⟨#[35, 78, 65, 77, 69, 63]⟩ : ByteArray), .string (⟨#[35, 78, 85, 77, 33]⟩ : ByteArray), .string (⟨#[35, 78, 47, 65]⟩ : ByteArray)] 9)) := hbA.alloc (by simp) _
  have z1 : Zero5 ((w.alloc (.cells #[.int .i64 0, .int .i64 0, .int .i64 0, .string ⟨#[]⟩, .slice none 0 0] 27)).alloc (.cells #[.string (⟨#[35, 78, 85, 76, 76, 33]⟩ : ByteArray), .string (⟨#[35, 68, 73, 86, 47, 48, 33]⟩ : ByteArray), .string (⟨#[35, 86, 65, 76, 85, 69, 33]⟩ : ByteArray), .string (⟨#[35, 82, 69, 70, 33]⟩ : ByteArray), .string (⟨#[35, 78, 65, 77, 69, 63]⟩ : ByteArray), .string (⟨#[35, 78, 85, 77, 33]⟩ : ByteArray), .string (⟨#[35, 78, 47, 65]⟩ : ByteArray)] 9)) w.heap.size := z0.below ((Below.refl _ _).alloc (Nat.le_refl _) _)
  have ZB := Lib.hid (And.intro z1 hbB)
  clear z0 hbA z1 hbB
  rcases mod_six a with h | h | h | h | h | h
  · go_enter Tryz.func18, Tryz.ntmps18
    go_wp2
    exact bodyPost_ret (v := (.agg #[.int .i64 0, .int .i64 0, .int .i64 0, .string ⟨#[]⟩, .slice none 0 0])) (by simp [results, Tryz.results18, go_sem]) rfl ⟨⟨0, 0, 0, ⟨#[]⟩⟩, ⟨.inl (.inl rfl), (by simp), (by simp), (by simp)⟩, rfl, (by (repeat' (first | with_reducible exact Below.refl _ _ | with_reducible refine Below.setCell ?_ ?_ _ | with_reducible refine Below.alloc ?_ ?_ _ | with_reducible refine Below.drew ?_ | with_reducible refine Below.trans ?_ (Below.mono (by assumption) ?_))); all_goals (first | omega | (simp [World.setCell]; done) | (simp [World.setCell]; omega)))⟩
  · by_cases hbig : 99999999999 < n ∨ n < -99999999999
    · have HBIG := Lib.hid hbig
      clear hbig
      go_enter Tryz.func18, Tryz.ntmps18
      go_wp2_with fail
      refine (argWhole_big n _ HBIG.out).mono ?_
      rintro e w1 ⟨rfl, hb1⟩
      obtain ⟨z0, hbA⟩ := ZB.out
      obtain ⟨q, q0, q1, q2, q3, q4, qf⟩ := z0.below hb1
      have hbw := hbA.trans (hb1.mono (by simp; omega))
      clear z0 hbA hb1 ZB
      go_wp2
      exact bodyPost_ret (v := (.agg #[.int .i64 6, .int .i64 0, .int .i64 0, .string ⟨#[]⟩, .slice none 0 0])) (by simp [results, Tryz.results18, go_sem, q, q0, q1, q2, q3, q4, qf]) rfl ⟨⟨6, 0, 0, ⟨#[]⟩⟩, ⟨.inl (.inr (.inr (.inr rfl))), (by simp), (by simp), (by simp)⟩, rfl, (by (repeat' (first | with_reducible exact Below.refl _ _ | with_reducible refine Below.setCell ?_ ?_ _ | with_reducible refine Below.alloc ?_ ?_ _ | with_reducible refine Below.drew ?_ | with_reducible refine Below.trans ?_ (Below.mono (by assumption) ?_))); all_goals (first | omega | (simp [World.setCell]; done) | (simp [World.setCell]; omega)))⟩
    · have hlo : -99999999999 ≤ n := by omega
      have hhi : n ≤ 99999999999 := by omega
      have HLO := Lib.hid hlo
      have HHI := Lib.hid hhi
      clear hbig hlo hhi
      go_enter Tryz.func18, Tryz.ntmps18
      go_wp2_with fail
      refine (argWhole_ok n _ HHI.out HLO.out).mono ?_
      rintro e w1 ⟨rfl, hb1⟩
      obtain ⟨z0, hbA⟩ := ZB.out
      obtain ⟨q, q0, q1, q2, q3, q4, qf⟩ := z0.below hb1
      have hbw := hbA.trans (hb1.mono (by simp; omega))
      clear z0 hbA hb1 ZB
      go_wp2
      exact bodyPost_ret (v := (.agg #[.int .i64 1, .int .i64 n, .int .i64 1, .string ⟨#[]⟩, .slice none 0 0])) (by simp [results, Tryz.results18, go_sem, q, q0, q1, q2, q3, q4, qf]) rfl ⟨⟨1, n, 1, ⟨#[]⟩⟩, ⟨.inr (.inl ⟨rfl, HLO.out, HHI.out, (by simp [dens])⟩), (by simp), (by simp), (by simp)⟩, rfl, (by (repeat' (first | with_reducible exact Below.refl _ _ | with_reducible refine Below.setCell ?_ ?_ _ | with_reducible refine Below.alloc ?_ ?_ _ | with_reducible refine Below.drew ?_ | with_reducible refine Below.trans ?_ (Below.mono (by assumption) ?_))); all_goals (first | omega | (simp [World.setCell]; done) | (simp [World.setCell]; omega)))⟩
  · go_enter Tryz.func18, Tryz.ntmps18
    go_wp2_with fail
    refine (str_any s _).mono ?_
    rintro e w1 ⟨rfl, hb1⟩
    obtain ⟨z0, hbA⟩ := ZB.out
    obtain ⟨q, q0, q1, q2, q3, q4, qf⟩ := z0.below hb1
    have hbw := hbA.trans (hb1.mono (by simp; omega))
    clear z0 hbA hb1 ZB
    go_wp2
    exact bodyPost_ret (v := (.agg #[.int .i64 2, .int .i64 0, .int .i64 0, .string s, .slice none 0 0])) (by simp [results, Tryz.results18, go_sem, q, q0, q1, q2, q3, q4, qf]) rfl ⟨⟨2, 0, 0, s⟩, ⟨.inl (.inr (.inl rfl)), (by simp), (by simp), (by simp)⟩, rfl, (by (repeat' (first | with_reducible exact Below.refl _ _ | with_reducible refine Below.setCell ?_ ?_ _ | with_reducible refine Below.alloc ?_ ?_ _ | with_reducible refine Below.drew ?_ | with_reducible refine Below.trans ?_ (Below.mono (by assumption) ?_))); all_goals (first | omega | (simp [World.setCell]; done) | (simp [World.setCell]; omega)))⟩
  · by_cases hm : n.tmod 2 = 0
    · have hm2 : (n.tmod 2 != 0) = false := by simp [hm]
      clear hm
      go_enter Tryz.func18, Tryz.ntmps18
      go_wp2_with fail
      go_fit (bool_any false _)
      rintro e w1 ⟨rfl, hb1⟩
      obtain ⟨z0, hbA⟩ := ZB.out
      obtain ⟨q, q0, q1, q2, q3, q4, qf⟩ := z0.below hb1
      have hbw := hbA.trans (hb1.mono (by simp; omega))
      clear z0 hbA hb1 ZB
      go_wp2
      exact bodyPost_ret (v := (.agg #[.int .i64 3, .int .i64 0, .int .i64 0, .string ⟨#[]⟩, .slice none 0 0])) (by simp [results, Tryz.results18, go_sem, q, q0, q1, q2, q3, q4, qf]) rfl ⟨⟨3, 0, 0, ⟨#[]⟩⟩, ⟨.inr (.inr ⟨rfl, .inl rfl⟩), (by simp), (by simp), (by simp)⟩, rfl, (by (repeat' (first | with_reducible exact Below.refl _ _ | with_reducible refine Below.setCell ?_ ?_ _ | with_reducible refine Below.alloc ?_ ?_ _ | with_reducible refine Below.drew ?_ | with_reducible refine Below.trans ?_ (Below.mono (by assumption) ?_))); all_goals (first | omega | (simp [World.setCell]; done) | (simp [World.setCell]; omega)))⟩
    · have hm2 : (n.tmod 2 != 0) = true := by simpa using hm
      clear hm
      go_enter Tryz.func18, Tryz.ntmps18
      go_wp2_with fail
      go_fit (bool_any true _)
      rintro e w1 ⟨rfl, hb1⟩
      obtain ⟨z0, hbA⟩ := ZB.out
      obtain ⟨q, q0, q1, q2, q3, q4, qf⟩ := z0.below hb1
      have hbw := hbA.trans (hb1.mono (by simp; omega))
      clear z0 hbA hb1 ZB
      go_wp2
      exact bodyPost_ret (v := (.agg #[.int .i64 3, .int .i64 1, .int .i64 0, .string ⟨#[]⟩, .slice none 0 0])) (by simp [results, Tryz.results18, go_sem, q, q0, q1, q2, q3, q4, qf]) rfl ⟨⟨3, 1, 0, ⟨#[]⟩⟩, ⟨.inr (.inr ⟨rfl, .inr rfl⟩), (by simp), (by simp), (by simp)⟩, rfl, (by (repeat' (first | with_reducible exact Below.refl _ _ | with_reducible refine Below.setCell ?_ ?_ _ | with_reducible refine Below.alloc ?_ ?_ _ | with_reducible refine Below.drew ?_ | with_reducible refine Below.trans ?_ (Below.mono (by assumption) ?_))); all_goals (first | omega | (simp [World.setCell]; done) | (simp [World.setCell]; omega)))⟩
  · have h7 := wrap_seven n
    rcases h7 with h7 | h7 | h7 | h7 | h7 | h7 | h7
    · go_enter Tryz.func18, Tryz.ntmps18
      go_wp2_with fail
      go_fit (err_any (⟨#[35, 78, 85, 76, 76, 33]⟩ : ByteArray) _)
      rintro e w1 ⟨rfl, hb1⟩
      obtain ⟨z0, hbA⟩ := ZB.out
      obtain ⟨q, q0, q1, q2, q3, q4, qf⟩ := z0.below hb1
      have hbw := hbA.trans (hb1.mono (by simp; omega))
      clear z0 hbA hb1 ZB
      go_wp2
      exact bodyPost_ret (v := (.agg #[.int .i64 4, .int .i64 0, .int .i64 0, .string (⟨#[35, 78, 85, 76, 76, 33]⟩ : ByteArray), .slice none 0 0])) (by simp [results, Tryz.results18, go_sem, q, q0, q1, q2, q3, q4, qf]) rfl ⟨⟨4, 0, 0, (⟨#[35, 78, 85, 76, 76, 33]⟩ : ByteArray)⟩, ⟨.inl (.inr (.inr (.inl rfl))), (by simp [errNames]), (by simp), (by simp)⟩, rfl, (by (repeat' (first | with_reducible exact Below.refl _ _ | with_reducible refine Below.setCell ?_ ?_ _ | with_reducible refine Below.alloc ?_ ?_ _ | with_reducible refine Below.drew ?_ | with_reducible refine Below.trans ?_ (Below.mono (by assumption) ?_))); all_goals (first | omega | (simp [World.setCell]; done) | (simp [World.setCell]; omega)))⟩
    · go_enter Tryz.func18, Tryz.ntmps18
      go_wp2_with fail
      go_fit (err_any (⟨#[35, 68, 73, 86, 47, 48, 33]⟩ : ByteArray) _)
      rintro e w1 ⟨rfl, hb1⟩
      obtain ⟨z0, hbA⟩ := ZB.out
      obtain ⟨q, q0, q1, q2, q3, q4, qf⟩ := z0.below hb1
      have hbw := hbA.trans (hb1.mono (by simp; omega))
      clear z0 hbA hb1 ZB
      go_wp2
      exact bodyPost_ret (v := (.agg #[.int .i64 4, .int .i64 0, .int .i64 0, .string (⟨#[35, 68, 73, 86, 47, 48, 33]⟩ : ByteArray), .slice none 0 0])) (by simp [results, Tryz.results18, go_sem, q, q0, q1, q2, q3, q4, qf]) rfl ⟨⟨4, 0, 0, (⟨#[35, 68, 73, 86, 47, 48, 33]⟩ : ByteArray)⟩, ⟨.inl (.inr (.inr (.inl rfl))), (by simp [errNames]), (by simp), (by simp)⟩, rfl, (by (repeat' (first | with_reducible exact Below.refl _ _ | with_reducible refine Below.setCell ?_ ?_ _ | with_reducible refine Below.alloc ?_ ?_ _ | with_reducible refine Below.drew ?_ | with_reducible refine Below.trans ?_ (Below.mono (by assumption) ?_))); all_goals (first | omega | (simp [World.setCell]; done) | (simp [World.setCell]; omega)))⟩
    · go_enter Tryz.func18, Tryz.ntmps18
      go_wp2_with fail
      go_fit (err_any (⟨#[35, 86, 65, 76, 85, 69, 33]⟩ : ByteArray) _)
      rintro e w1 ⟨rfl, hb1⟩
      obtain ⟨z0, hbA⟩ := ZB.out
      obtain ⟨q, q0, q1, q2, q3, q4, qf⟩ := z0.below hb1
      have hbw := hbA.trans (hb1.mono (by simp; omega))
      clear z0 hbA hb1 ZB
      go_wp2
      exact bodyPost_ret (v := (.agg #[.int .i64 4, .int .i64 0, .int .i64 0, .string (⟨#[35, 86, 65, 76, 85, 69, 33]⟩ : ByteArray), .slice none 0 0])) (by simp [results, Tryz.results18, go_sem, q, q0, q1, q2, q3, q4, qf]) rfl ⟨⟨4, 0, 0, (⟨#[35, 86, 65, 76, 85, 69, 33]⟩ : ByteArray)⟩, ⟨.inl (.inr (.inr (.inl rfl))), (by simp [errNames]), (by simp), (by simp)⟩, rfl, (by (repeat' (first | with_reducible exact Below.refl _ _ | with_reducible refine Below.setCell ?_ ?_ _ | with_reducible refine Below.alloc ?_ ?_ _ | with_reducible refine Below.drew ?_ | with_reducible refine Below.trans ?_ (Below.mono (by assumption) ?_))); all_goals (first | omega | (simp [World.setCell]; done) | (simp [World.setCell]; omega)))⟩
    · go_enter Tryz.func18, Tryz.ntmps18
      go_wp2_with fail
      go_fit (err_any (⟨#[35, 82, 69, 70, 33]⟩ : ByteArray) _)
      rintro e w1 ⟨rfl, hb1⟩
      obtain ⟨z0, hbA⟩ := ZB.out
      obtain ⟨q, q0, q1, q2, q3, q4, qf⟩ := z0.below hb1
      have hbw := hbA.trans (hb1.mono (by simp; omega))
      clear z0 hbA hb1 ZB
      go_wp2
      exact bodyPost_ret (v := (.agg #[.int .i64 4, .int .i64 0, .int .i64 0, .string (⟨#[35, 82, 69, 70, 33]⟩ : ByteArray), .slice none 0 0])) (by simp [results, Tryz.results18, go_sem, q, q0, q1, q2, q3, q4, qf]) rfl ⟨⟨4, 0, 0, (⟨#[35, 82, 69, 70, 33]⟩ : ByteArray)⟩, ⟨.inl (.inr (.inr (.inl rfl))), (by simp [errNames]), (by simp), (by simp)⟩, rfl, (by (repeat' (first | with_reducible exact Below.refl _ _ | with_reducible refine Below.setCell ?_ ?_ _ | with_reducible refine Below.alloc ?_ ?_ _ | with_reducible refine Below.drew ?_ | with_reducible refine Below.trans ?_ (Below.mono (by assumption) ?_))); all_goals (first | omega | (simp [World.setCell]; done) | (simp [World.setCell]; omega)))⟩
    · go_enter Tryz.func18, Tryz.ntmps18
      go_wp2_with fail
      go_fit (err_any (⟨#[35, 78, 65, 77, 69, 63]⟩ : ByteArray) _)
      rintro e w1 ⟨rfl, hb1⟩
      obtain ⟨z0, hbA⟩ := ZB.out
      obtain ⟨q, q0, q1, q2, q3, q4, qf⟩ := z0.below hb1
      have hbw := hbA.trans (hb1.mono (by simp; omega))
      clear z0 hbA hb1 ZB
      go_wp2
      exact bodyPost_ret (v := (.agg #[.int .i64 4, .int .i64 0, .int .i64 0, .string (⟨#[35, 78, 65, 77, 69, 63]⟩ : ByteArray), .slice none 0 0])) (by simp [results, Tryz.results18, go_sem, q, q0, q1, q2, q3, q4, qf]) rfl ⟨⟨4, 0, 0, (⟨#[35, 78, 65, 77, 69, 63]⟩ : ByteArray)⟩, ⟨.inl (.inr (.inr (.inl rfl))), (by simp [errNames]), (by simp), (by simp)⟩, rfl, (by (repeat' (first | with_reducible exact Below.refl _ _ | with_reducible refine Below.setCell ?_ ?_ _ | with_reducible refine Below.alloc ?_ ?_ _ | with_reducible refine Below.drew ?_ | with_reducible refine Below.trans ?_ (Below.mono (by assumption) ?_))); all_goals (first | omega | (simp [World.setCell]; done) | (simp [World.setCell]; omega)))⟩
    · go_enter Tryz.func18, Tryz.ntmps18
      go_wp2_with fail
      go_fit (err_any (⟨#[35, 78, 85, 77, 33]⟩ : ByteArray) _)
      rintro e w1 ⟨rfl, hb1⟩
      obtain ⟨z0, hbA⟩ := ZB.out
      obtain ⟨q, q0, q1, q2, q3, q4, qf⟩ := z0.below hb1
      have hbw := hbA.trans (hb1.mono (by simp; omega))
      clear z0 hbA hb1 ZB
      go_wp2
      exact bodyPost_ret (v := (.agg #[.int .i64 4, .int .i64 0, .int .i64 0, .string (⟨#[35, 78, 85, 77, 33]⟩ : ByteArray), .slice none 0 0])) (by simp [results, Tryz.results18, go_sem, q, q0, q1, q2, q3, q4, qf]) rfl ⟨⟨4, 0, 0, (⟨#[35, 78, 85, 77, 33]⟩ : ByteArray)⟩, ⟨.inl (.inr (.inr (.inl rfl))), (by simp [errNames]), (by simp), (by simp)⟩, rfl, (by (repeat' (first | with_reducible exact Below.refl _ _ | with_reducible refine Below.setCell ?_ ?_ _ | with_reducible refine Below.alloc ?_ ?_ _ | with_reducible refine Below.drew ?_ | with_reducible refine Below.trans ?_ (Below.mono (by assumption) ?_))); all_goals (first | omega | (simp [World.setCell]; done) | (simp [World.setCell]; omega)))⟩
    · go_enter Tryz.func18, Tryz.ntmps18
      go_wp2_with fail
      go_fit (err_any (⟨#[35, 78, 47, 65]⟩ : ByteArray) _)
      rintro e w1 ⟨rfl, hb1⟩
      obtain ⟨z0, hbA⟩ := ZB.out
      obtain ⟨q, q0, q1, q2, q3, q4, qf⟩ := z0.below hb1
      have hbw := hbA.trans (hb1.mono (by simp; omega))
      clear z0 hbA hb1 ZB
      go_wp2
      exact bodyPost_ret (v := (.agg #[.int .i64 4, .int .i64 0, .int .i64 0, .string (⟨#[35, 78, 47, 65]⟩ : ByteArray), .slice none 0 0])) (by simp [results, Tryz.results18, go_sem, q, q0, q1, q2, q3, q4, qf]) rfl ⟨⟨4, 0, 0, (⟨#[35, 78, 47, 65]⟩ : ByteArray)⟩, ⟨.inl (.inr (.inr (.inl rfl))), (by simp [errNames]), (by simp), (by simp)⟩, rfl, (by (repeat' (first | with_reducible exact Below.refl _ _ | with_reducible refine Below.setCell ?_ ?_ _ | with_reducible refine Below.alloc ?_ ?_ _ | with_reducible refine Below.drew ?_ | with_reducible refine Below.trans ?_ (Below.mono (by assumption) ?_))); all_goals (first | omega | (simp [World.setCell]; done) | (simp [World.setCell]; omega)))⟩
  · go_enter Tryz.func18, Tryz.ntmps18
    go_wp2_with fail
    refine (argPart_any n _).mono ?_
    rintro e w1 ⟨x, hxo, hxk, rfl, hb1⟩
    obtain ⟨z0, hbA⟩ := ZB.out
    obtain ⟨q, q0, q1, q2, q3, q4, qf⟩ := z0.below hb1
    have hbw := hbA.trans (hb1.mono (by simp; omega))
    clear z0 hbA hb1 ZB
    have HX := Lib.hid (Fv.made_num hxo hxk s)
    clear hxo hxk
    go_wp2
    exact bodyPost_ret (v := (.agg #[.int .i64 x.k, .int .i64 x.n, .int .i64 x.d, .string x.s, .slice none 0 0])) (by simp [results, Tryz.results18, go_sem, q, q0, q1, q2, q3, q4, qf]) rfl ⟨x, HX.out, rfl, (by (repeat' (first | with_reducible exact Below.refl _ _ | with_reducible refine Below.setCell ?_ ?_ _ | with_reducible refine Below.alloc ?_ ?_ _ | with_reducible refine Below.drew ?_ | with_reducible refine Below.trans ?_ (Below.mono (by assumption) ?_))); all_goals (first | omega | (simp [World.setCell]; done) | (simp [World.setCell]; omega)))⟩

end Go.Proofs.YtkkmfpjmnebjaaaGreat
