/- Fractions, digits, what a text is as a number: Frac, Same, letters, Digits, Plain, Read; whether a value may be taken as a number. -/
import Derived.Test.YtdpkjhohklfieaaGreatDoorV
import Derived.Test.YtdpkjhohklfieaaGreatDoorO
import Derived.BigQuiet
import Derived.Deep.RegionHeld3
set_option linter.unusedSimpArgs false
set_option linter.unusedVariables false
namespace Go.Proofs.YtdpkjhohklfieaaGreatDoor
open Go.RowKit
set_option maxRecDepth 100000

/-- 'n, d = n/2, d/2' so long as d > 1 and n is even. -/
def red : Nat → Int → Int → Int × Int
  | 0, n, d => (n, d)
  | f + 1, n, d => if d > 1 ∧ n % 2 = 0 then red f (n / 2) (d / 2) else (n, d)

/-- Frac of n and d, d from 1 to 2^20: none: nothing is said. -/
def frac (n d : Int) : Option (Int × Int) :=
  if n > 1125899906842624 ∨ n < -1125899906842624 ∨ (n * 16).tmod d ≠ 0 then none
  else
    let r := red 4 ((n * 16).tdiv d) 16
    if r.1 > 99999999999 ∨ r.1 < -99999999999 then none else some r

def FracPost (n d : Int) (w : World) (e : Ending) (w' : World) : Prop :=
  (match frac n d with
    | none => e = .returned (.agg #[.int .i64 6, .int .i64 0, .int .i64 0, .string ⟨#[]⟩, .slice none 0 0])
    | some r => e = .returned (.agg #[.int .i64 1, .int .i64 r.1, .int .i64 r.2, .string ⟨#[]⟩, .slice none 0 0])) ∧ Below w.heap.size w w'

theorem tmod_two (n : Int) : (n.tmod 2 == 0) = decide (n % 2 = 0) := by
  rw [Bool.eq_iff_iff]; simp only [beq_iff_eq, decide_eq_true_eq]
  rw [← Int.dvd_iff_tmod_eq_zero, Int.dvd_iff_emod_eq_zero]

/-- Where the rounds stand: f of them are left at most. -/
def RedAt (N : Int) (f : Nat) (n d : Int) : Prop := red f n d = red 4 N 16 ∧ d = 2 ^ f ∧ f ≤ 4

theorem RedAt.step {N : Int} {f : Nat} {n d : Int} (h : RedAt N f n d) (hd : 1 < d) (hn : n % 2 = 0) : ∃ f', f = f' + 1 ∧ RedAt N f' (n.tdiv 2) (d / 2) := by
  obtain ⟨h1, h2, h3⟩ := h
  cases f with
  | zero => rw [h2] at hd; simp at hd
  | succ f =>
    refine ⟨f, rfl, ?_, ?_, by omega⟩
    · rw [red, if_pos ⟨hd, hn⟩] at h1
      rw [Int.tdiv_eq_ediv_of_dvd (Int.dvd_iff_emod_eq_zero.2 hn)]; exact h1
    · rw [h2, Int.pow_succ]; simp

theorem RedAt.stop {N : Int} {f : Nat} {n d : Int} (h : RedAt N f n d) (hs : d ≤ 1 ∨ n % 2 ≠ 0) : red 4 N 16 = (n, d) := by
  obtain ⟨h1, h2, h3⟩ := h
  cases f with
  | zero => rw [← h1]; rfl
  | succ f => rw [← h1, red, if_neg (by omega)]

theorem RedAt.bounds {N : Int} {f : Nat} {n d : Int} (h : RedAt N f n d) : 1 ≤ d ∧ d ≤ 16 := by
  obtain ⟨_, h2, h3⟩ := h
  rcases f with _ | _ | _ | _ | _ | f
  all_goals first
    | (subst h2; decide)
    | omega

set_option maxHeartbeats 4000000 in
theorem frac_any (n d : Int) (w : World) (hd1 : 0 < d) (hd2 : d ≤ 1048576) :
    Calls Tryz.prog 17 #[.int .i64 n, .int .i64 d] w (FracPost n d w) := by
  have hneg : ¬ d < 0 := by omega
  have hd0 : (d == 0) = false := by rw [beq_eq_false_iff_ne]; omega
  by_cases h1 : 1125899906842624 < n
  · go_enter Tryz.func17, Tryz.ntmps17
    go_wp2_with (go_at_call 19; refine (doubt_any _).mono ?_; rintro e w9 ⟨rfl, hb9⟩; obtain ⟨hc9, hf9, hz9⟩ := bcell hb9; try simp only [World.size_alloc, size_setCell] at hz9)
    refine bodyPost_ret (v := (.agg #[.int .i64 6, .int .i64 0, .int .i64 0, .string ⟨#[]⟩, .slice none 0 0])) (by simp [results, Tryz.results17, go_sem, hc9]) rfl ⟨?_, (by (repeat' (first | with_reducible exact Below.refl _ _ | with_reducible refine Below.setCell ?_ ?_ _ | with_reducible refine Below.alloc ?_ ?_ _ | with_reducible refine Below.drew ?_ | with_reducible refine Below.trans ?_ (Below.mono (by assumption) ?_))); all_goals (first | omega | (simp [World.setCell]; done) | (simp [World.setCell]; omega)))⟩
    unfold frac; rw [if_pos (.inl h1)]
  · by_cases h2 : n < -1125899906842624
    · go_enter Tryz.func17, Tryz.ntmps17
      go_wp2_with (go_at_call 19; refine (doubt_any _).mono ?_; rintro e w9 ⟨rfl, hb9⟩; obtain ⟨hc9, hf9, hz9⟩ := bcell hb9; try simp only [World.size_alloc, size_setCell] at hz9)
      refine bodyPost_ret (v := (.agg #[.int .i64 6, .int .i64 0, .int .i64 0, .string ⟨#[]⟩, .slice none 0 0])) (by simp [results, Tryz.results17, go_sem, hc9]) rfl ⟨?_, (by (repeat' (first | with_reducible exact Below.refl _ _ | with_reducible refine Below.setCell ?_ ?_ _ | with_reducible refine Below.alloc ?_ ?_ _ | with_reducible refine Below.drew ?_ | with_reducible refine Below.trans ?_ (Below.mono (by assumption) ?_))); all_goals (first | omega | (simp [World.setCell]; done) | (simp [World.setCell]; omega)))⟩
      unfold frac; rw [if_pos (.inr (.inl h2))]
    · have hmul : IntKind.i64.wrap (n * 16) = n * 16 := by rw [IntKind.wrap_i64]; omega
      cases h3 : ((n * 16).tmod d != 0)
      · have hfr : frac n d = (if (red 4 ((n * 16).tdiv d) 16).1 > 99999999999 ∨ (red 4 ((n * 16).tdiv d) 16).1 < -99999999999 then none else some (red 4 ((n * 16).tdiv d) 16)) := by
          unfold frac; rw [if_neg (by rintro (h | h | h); exact h1 h; exact h2 h; exact h (by simpa using h3))]
        have hN1 : (n * 16).tdiv d ≤ 18014398509481984 := by
          refine Int.le_trans (Int.le_natAbs) ?_
          rw [Int.natAbs_tdiv]
          have : (n * 16).natAbs.div d.natAbs ≤ (n * 16).natAbs := Nat.div_le_self (n * 16).natAbs d.natAbs
          omega
        have hN2 : -18014398509481984 ≤ (n * 16).tdiv d := by
          have h : ((n * 16).tdiv d).natAbs ≤ 18014398509481984 := by
            rw [Int.natAbs_tdiv]
            have : (n * 16).natAbs.div d.natAbs ≤ (n * 16).natAbs := Nat.div_le_self (n * 16).natAbs d.natAbs
            omega
          omega
        have HFR := Lib.hid hfr
        clear hfr hmul
        go_enter Tryz.func17, Tryz.ntmps17
        go_wp2_with fail
        obtain ⟨N, hN⟩ : ∃ N, N = (n * 16).tdiv d := ⟨_, rfl⟩
        rw [← hN] at hN1 hN2 HFR
        rw [← hN]
        clear hN
        go_loop [0, 1] (fun x y => ∃ (f : Nat) (nn dd : Int), RedAt N f nn dd ∧ nn ≤ 18014398509481984 ∧ -18014398509481984 ≤ nn ∧ x = .int .i64 nn ∧ y = .int .i64 dd) (fun _ y => (intOf y).toNat)
        case atStart => exact ⟨4, N, 16, ⟨rfl, rfl, by decide⟩, hN1, hN2, rfl, rfl⟩
        case round =>
          obtain ⟨f, nn, dd, hred, hb1, hb2, rfl, rfl⟩ := hrel
          have hdb1 := hred.bounds.1
          have hdb2 := hred.bounds.2
          have HR := Lib.hid hred
          clear hred h3 h1 h2 hN1 hN2
          by_cases hd : 1 < dd
          · cases hn : (nn.tmod 2 == 0)
            · have hfin := HR.out.stop (.inr (by rw [tmod_two] at hn; simpa using hn))
              rw [hfin] at HFR
              clear hfin
              have hn2 : (nn % 2 == 0) = false := by rw [tmod_two] at hn; simpa using hn
              by_cases hg1 : 99999999999 < nn
              · go_wp2_with (go_at_call 19; refine (doubt_any _).mono ?_; rintro e w9 ⟨rfl, hb9⟩; obtain ⟨hc9, hf9, hz9⟩ := bcell hb9; try simp only [World.size_alloc, size_setCell] at hz9)
                refine bodyPost_ret (v := (.agg #[.int .i64 6, .int .i64 0, .int .i64 0, .string ⟨#[]⟩, .slice none 0 0])) (by simp [results, Tryz.results17, go_sem, hc9]) rfl ⟨?_, (by (repeat' (first | with_reducible exact Below.refl _ _ | with_reducible refine Below.setCell ?_ ?_ _ | with_reducible refine Below.alloc ?_ ?_ _ | with_reducible refine Below.drew ?_ | with_reducible refine Below.trans ?_ (Below.mono (by assumption) ?_))); all_goals (first | omega | (simp [World.setCell]; done) | (simp [World.setCell]; omega)))⟩
                rw [HFR.out, if_pos (.inl hg1)]
              · by_cases hg2 : nn < -99999999999
                · go_wp2_with (go_at_call 19; refine (doubt_any _).mono ?_; rintro e w9 ⟨rfl, hb9⟩; obtain ⟨hc9, hf9, hz9⟩ := bcell hb9; try simp only [World.size_alloc, size_setCell] at hz9)
                  refine bodyPost_ret (v := (.agg #[.int .i64 6, .int .i64 0, .int .i64 0, .string ⟨#[]⟩, .slice none 0 0])) (by simp [results, Tryz.results17, go_sem, hc9]) rfl ⟨?_, (by (repeat' (first | with_reducible exact Below.refl _ _ | with_reducible refine Below.setCell ?_ ?_ _ | with_reducible refine Below.alloc ?_ ?_ _ | with_reducible refine Below.drew ?_ | with_reducible refine Below.trans ?_ (Below.mono (by assumption) ?_))); all_goals (first | omega | (simp [World.setCell]; done) | (simp [World.setCell]; omega)))⟩
                  rw [HFR.out, if_pos (.inr hg2)]
                · go_wp2_with fail
                  refine bodyPost_ret (v := (.agg #[.int .i64 1, .int .i64 nn, .int .i64 dd, .string ⟨#[]⟩, .slice none 0 0])) (by simp [results, Tryz.results17, go_sem]) rfl ⟨?_, (by (repeat' (first | with_reducible exact Below.refl _ _ | with_reducible refine Below.setCell ?_ ?_ _ | with_reducible refine Below.alloc ?_ ?_ _ | with_reducible refine Below.drew ?_ | with_reducible refine Below.trans ?_ (Below.mono (by assumption) ?_))); all_goals (first | omega | (simp [World.setCell]; done) | (simp [World.setCell]; omega)))⟩
                  rw [HFR.out, if_neg (by show ¬ (nn > 99999999999 ∨ nn < -99999999999); omega)]
            · have hn' : nn % 2 = 0 := by rw [tmod_two] at hn; simpa using hn
              obtain ⟨f', rfl, hred'⟩ := HR.out.step hd hn'
              have HR' := Lib.hid hred'
              have ht1 : nn.tdiv 2 ≤ 18014398509481984 := by
                rw [Int.tdiv_eq_ediv_of_dvd (Int.dvd_iff_emod_eq_zero.2 hn')]; omega
              have ht2 : -18014398509481984 ≤ nn.tdiv 2 := by
                rw [Int.tdiv_eq_ediv_of_dvd (Int.dvd_iff_emod_eq_zero.2 hn')]; omega
              clear hred' hn'
              go_wp2_with fail
              go_round
              case rel => exact ⟨f', _, _, HR'.out, ht1, ht2, rfl, rfl⟩
              case measure => simp [intOf]; omega
          · have hfin := HR.out.stop (.inl (by omega))
            rw [hfin] at HFR
            clear hfin
            by_cases hg1 : 99999999999 < nn
            · go_wp2_with (go_at_call 19; refine (doubt_any _).mono ?_; rintro e w9 ⟨rfl, hb9⟩; obtain ⟨hc9, hf9, hz9⟩ := bcell hb9; try simp only [World.size_alloc, size_setCell] at hz9)
              refine bodyPost_ret (v := (.agg #[.int .i64 6, .int .i64 0, .int .i64 0, .string ⟨#[]⟩, .slice none 0 0])) (by simp [results, Tryz.results17, go_sem, hc9]) rfl ⟨?_, (by (repeat' (first | with_reducible exact Below.refl _ _ | with_reducible refine Below.setCell ?_ ?_ _ | with_reducible refine Below.alloc ?_ ?_ _ | with_reducible refine Below.drew ?_ | with_reducible refine Below.trans ?_ (Below.mono (by assumption) ?_))); all_goals (first | omega | (simp [World.setCell]; done) | (simp [World.setCell]; omega)))⟩
              rw [HFR.out, if_pos (.inl hg1)]
            · by_cases hg2 : nn < -99999999999
              · go_wp2_with (go_at_call 19; refine (doubt_any _).mono ?_; rintro e w9 ⟨rfl, hb9⟩; obtain ⟨hc9, hf9, hz9⟩ := bcell hb9; try simp only [World.size_alloc, size_setCell] at hz9)
                refine bodyPost_ret (v := (.agg #[.int .i64 6, .int .i64 0, .int .i64 0, .string ⟨#[]⟩, .slice none 0 0])) (by simp [results, Tryz.results17, go_sem, hc9]) rfl ⟨?_, (by (repeat' (first | with_reducible exact Below.refl _ _ | with_reducible refine Below.setCell ?_ ?_ _ | with_reducible refine Below.alloc ?_ ?_ _ | with_reducible refine Below.drew ?_ | with_reducible refine Below.trans ?_ (Below.mono (by assumption) ?_))); all_goals (first | omega | (simp [World.setCell]; done) | (simp [World.setCell]; omega)))⟩
                rw [HFR.out, if_pos (.inr hg2)]
              · go_wp2_with fail
                refine bodyPost_ret (v := (.agg #[.int .i64 1, .int .i64 nn, .int .i64 dd, .string ⟨#[]⟩, .slice none 0 0])) (by simp [results, Tryz.results17, go_sem]) rfl ⟨?_, (by (repeat' (first | with_reducible exact Below.refl _ _ | with_reducible refine Below.setCell ?_ ?_ _ | with_reducible refine Below.alloc ?_ ?_ _ | with_reducible refine Below.drew ?_ | with_reducible refine Below.trans ?_ (Below.mono (by assumption) ?_))); all_goals (first | omega | (simp [World.setCell]; done) | (simp [World.setCell]; omega)))⟩
                rw [HFR.out, if_neg (by show ¬ (nn > 99999999999 ∨ nn < -99999999999); omega)]
      · go_enter Tryz.func17, Tryz.ntmps17
        go_wp2_with (go_at_call 19; refine (doubt_any _).mono ?_; rintro e w9 ⟨rfl, hb9⟩; obtain ⟨hc9, hf9, hz9⟩ := bcell hb9; try simp only [World.size_alloc, size_setCell] at hz9)
        refine bodyPost_ret (v := (.agg #[.int .i64 6, .int .i64 0, .int .i64 0, .string ⟨#[]⟩, .slice none 0 0])) (by simp [results, Tryz.results17, go_sem, hc9]) rfl ⟨?_, (by (repeat' (first | with_reducible exact Below.refl _ _ | with_reducible refine Below.setCell ?_ ?_ _ | with_reducible refine Below.alloc ?_ ?_ _ | with_reducible refine Below.drew ?_ | with_reducible refine Below.trans ?_ (Below.mono (by assumption) ?_))); all_goals (first | omega | (simp [World.setCell]; done) | (simp [World.setCell]; omega)))⟩
        unfold frac; rw [if_pos (.inr (.inr (by simpa using h3)))]

theorem red_dens (N : Int) : (red 4 N 16).2 ∈ dens := by
  simp only [red]
  split
  · split
    · split
      · split <;> simp [dens]
      · simp [dens]
    · simp [dens]
  · simp [dens]

/-- What Frac says is one of the values that come. -/
theorem frac_ok {n d : Int} {r : Int × Int} (h : frac n d = some r) : (⟨1, r.1, r.2, ⟨#[]⟩⟩ : Fv).Ok := by
  unfold frac at h
  split at h
  · cases h
  · simp only at h
    split at h
    · cases h
    · rename_i hb
      injection h with h
      subst h
      have hdn := red_dens ((n * 16).tdiv d)
      revert hb hdn
      generalize red 4 ((n * 16).tdiv d) 16 = r
      obtain ⟨a, b⟩ := r
      intro hb hdn
      have h1 : ¬ a > 99999999999 := fun h => hb (.inl h)
      have h2 : ¬ a < -99999999999 := fun h => hb (.inr h)
      exact .inr (.inl ⟨rfl, Int.not_lt.1 h2, Int.not_lt.1 h1, hdn⟩)

/-- Some number or error of which nothing more is said here, or nothing at all. -/
def ReadPost (w : World) (e : Ending) (w' : World) : Prop := ∃ x : Fv, x.Ok ∧ (x.k = 1 ∨ x.k = 4 ∨ x.k = 6) ∧ e = .returned (.agg #[.int .i64 x.k, .int .i64 x.n, .int .i64 x.d, .string x.s, .slice none 0 0]) ∧ Below w.heap.size w w'

theorem OtherPost.read {s : ByteArray} {w : World} {e : Ending} {w' : World} (h : OtherPost s w e w') : ∃ x : Fv, x.Ok ∧ (x.k = 1 ∨ x.k = 4 ∨ x.k = 6) ∧ e = .returned (.agg #[.int .i64 x.k, .int .i64 x.n, .int .i64 x.d, .string x.s, .slice none 0 0]) ∧ Below w.heap.size w w' := by
  obtain ⟨h, hb⟩ := h
  split at h
  · exact ⟨⟨4, 0, 0, (⟨#[35, 86, 65, 76, 85, 69, 33]⟩ : ByteArray)⟩, .inl (.inr (.inr (.inl rfl))), .inr (.inl rfl), h, hb⟩
  · exact ⟨⟨6, 0, 0, ⟨#[]⟩⟩, .inl (.inr (.inr (.inr rfl))), .inr (.inr rfl), h, hb⟩

theorem FracPost.read {n d : Int} {w : World} {e : Ending} {w' : World} (h : FracPost n d w e w') : ∃ x : Fv, x.Ok ∧ (x.k = 1 ∨ x.k = 4 ∨ x.k = 6) ∧ e = .returned (.agg #[.int .i64 x.k, .int .i64 x.n, .int .i64 x.d, .string x.s, .slice none 0 0]) ∧ Below w.heap.size w w' := by
  obtain ⟨h, hb⟩ := h
  split at h
  · exact ⟨⟨6, 0, 0, ⟨#[]⟩⟩, .inl (.inr (.inr (.inr rfl))), .inr (.inr rfl), h, hb⟩
  · rename_i r hr
    exact ⟨⟨1, r.1, r.2, ⟨#[]⟩⟩, frac_ok hr, .inl rfl, h, hb⟩

theorem sameV_eq (k n d : Int) (s : ByteArray) (w : World) :
    Calls Tryz.prog 10 #[(.agg #[.int .i64 k, .int .i64 n, .int .i64 d, .string s, .slice none 0 0]), (.agg #[.int .i64 k, .int .i64 n, .int .i64 d, .string s, .slice none 0 0])] w fun e w' => e = .returned (.bool true) ∧ Below w.heap.size w w' := by
  go_enter Tryz.func10, Tryz.ntmps10
  go_wp2_with fail
  refine wp_loop_rounds 1 ?_
  rw [rounds_succ]
  go_wp2
  go_ret
  exact ⟨rfl, (by (repeat' (first | with_reducible exact Below.refl _ _ | with_reducible refine Below.setCell ?_ ?_ _ | with_reducible refine Below.alloc ?_ ?_ _ | with_reducible refine Below.drew ?_ | with_reducible refine Below.trans ?_ (Below.mono (by assumption) ?_))); all_goals (first | omega | (simp [World.setCell]; done) | (simp [World.setCell]; omega)))⟩

theorem sameV_kind (k n d k' n' d' : Int) (s s' : ByteArray) (w : World) (h : (k != k') = true) :
    Calls Tryz.prog 10 #[(.agg #[.int .i64 k, .int .i64 n, .int .i64 d, .string s, .slice none 0 0]), (.agg #[.int .i64 k', .int .i64 n', .int .i64 d', .string s', .slice none 0 0])] w fun e w' => e = .returned (.bool false) ∧ Below w.heap.size w w' := by
  go_enter Tryz.func10, Tryz.ntmps10
  go_wp2
  go_ret
  exact ⟨rfl, (by (repeat' (first | with_reducible exact Below.refl _ _ | with_reducible refine Below.setCell ?_ ?_ _ | with_reducible refine Below.alloc ?_ ?_ _ | with_reducible refine Below.drew ?_ | with_reducible refine Below.trans ?_ (Below.mono (by assumption) ?_))); all_goals (first | omega | (simp [World.setCell]; done) | (simp [World.setCell]; omega)))⟩

end Go.Proofs.YtdpkjhohklfieaaGreatDoor
