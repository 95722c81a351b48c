/- ISNA: the walks of its own: where the reference does not hold it, told, Fits, CallInfo, the package's function. -/
import Derived.Test.YtkkmfpjmnebjaaaGreatCk
import Derived.Test.YtkkmfpjmnebjaaaGreatZ
set_option linter.unusedSimpArgs false
set_option linter.unusedVariables false
namespace Go.Proofs.YtkkmfpjmnebjaaaGreat
open Go.RowKit
set_option maxRecDepth 100000
set_option maxHeartbeats 1000000

theorem fitsNumbers_ISNA (A : Option Addr) (L : List Ve) (c : Nat) (w : World) (hL : Args w A L) :
    Calls Tryz.prog 109 #[.string (⟨#[73, 83, 78, 65]⟩ : ByteArray), .slice A L.length c] w fun e w' => e = .returned (.tuple #[.bool false, .bool false]) ∧ Below w.heap.size w w' := by
  have HE := numeric_all A L c w hL
  go_enter Tryz.func109, Tryz.ntmps109
  go_wp2_with fail
  refine HE.mono ?_
  rintro e w1 ⟨r, rfl, hb1⟩
  go_wp2
  go_ret2
  exact ⟨rfl, hb1⟩

theorem fitsTexts_ISNA (A : Option Addr) (n c : Nat) (w : World) :
    Calls Tryz.prog 110 #[.string (⟨#[73, 83, 78, 65]⟩ : ByteArray), .slice A n c] w fun e w' => e = .returned (.tuple #[.bool false, .bool false]) ∧ Below w.heap.size w w' := by
  go_enter Tryz.func110, Tryz.ntmps110
  go_wp2
  go_ret2
  exact ⟨rfl, (by (repeat' (first | with_reducible exact Below.refl _ _ | with_reducible refine Below.setCell ?_ ?_ _ | with_reducible refine Below.alloc ?_ ?_ _ | with_reducible refine Below.drew ?_ | with_reducible refine Below.trans ?_ (Below.mono (by assumption) ?_))); all_goals (first | omega | (simp [World.setCell]; done) | (simp [World.setCell]; omega)))⟩

theorem Stat_ISNA (A : Option Addr) (n c : Nat) (w : World) :
    Calls Tryz.prog 90 #[.string (⟨#[73, 83, 78, 65]⟩ : ByteArray), .slice A n c] w fun e w' => e = .returned (.tuple #[(.agg #[.int .i64 0, .int .i64 0, .int .i64 0, .string ⟨#[]⟩, .slice none 0 0]), .bool false]) ∧ Below w.heap.size w w' := by
  go_enter Tryz.func90, Tryz.ntmps90
  go_wp2
  exact bodyPost_ret (v := (.tuple #[(.agg #[.int .i64 0, .int .i64 0, .int .i64 0, .string ⟨#[]⟩, .slice none 0 0]), .bool false])) (by simp [results, Tryz.results90, go_sem]) rfl ⟨rfl, (by (repeat' (first | with_reducible exact Below.refl _ _ | with_reducible refine Below.setCell ?_ ?_ _ | with_reducible refine Below.alloc ?_ ?_ _ | with_reducible refine Below.drew ?_ | with_reducible refine Below.trans ?_ (Below.mono (by assumption) ?_))); all_goals (first | omega | (simp [World.setCell]; done) | (simp [World.setCell]; omega)))⟩

theorem Criteria_ISNA (A : Option Addr) (n c : Nat) (w : World) :
    Calls Tryz.prog 91 #[.string (⟨#[73, 83, 78, 65]⟩ : ByteArray), .slice A n c] w fun e w' => e = .returned (.tuple #[(.agg #[.int .i64 0, .int .i64 0, .int .i64 0, .string ⟨#[]⟩, .slice none 0 0]), .bool false]) ∧ Below w.heap.size w w' := by
  go_enter Tryz.func91, Tryz.ntmps91
  go_wp2
  exact bodyPost_ret (v := (.tuple #[(.agg #[.int .i64 0, .int .i64 0, .int .i64 0, .string ⟨#[]⟩, .slice none 0 0]), .bool false])) (by simp [results, Tryz.results91, go_sem]) rfl ⟨rfl, (by (repeat' (first | with_reducible exact Below.refl _ _ | with_reducible refine Below.setCell ?_ ?_ _ | with_reducible refine Below.alloc ?_ ?_ _ | with_reducible refine Below.drew ?_ | with_reducible refine Below.trans ?_ (Below.mono (by assumption) ?_))); all_goals (first | omega | (simp [World.setCell]; done) | (simp [World.setCell]; omega)))⟩

theorem Lookup_ISNA (A : Option Addr) (n c : Nat) (w : World) :
    Calls Tryz.prog 92 #[.string (⟨#[73, 83, 78, 65]⟩ : ByteArray), .slice A n c] w fun e w' => e = .returned (.tuple #[(.agg #[.int .i64 0, .int .i64 0, .int .i64 0, .string ⟨#[]⟩, .slice none 0 0]), .bool false]) ∧ Below w.heap.size w w' := by
  go_enter Tryz.func92, Tryz.ntmps92
  go_wp2
  exact bodyPost_ret (v := (.tuple #[(.agg #[.int .i64 0, .int .i64 0, .int .i64 0, .string ⟨#[]⟩, .slice none 0 0]), .bool false])) (by simp [results, Tryz.results92, go_sem]) rfl ⟨rfl, (by (repeat' (first | with_reducible exact Below.refl _ _ | with_reducible refine Below.setCell ?_ ?_ _ | with_reducible refine Below.alloc ?_ ?_ _ | with_reducible refine Below.drew ?_ | with_reducible refine Below.trans ?_ (Below.mono (by assumption) ?_))); all_goals (first | omega | (simp [World.setCell]; done) | (simp [World.setCell]; omega)))⟩

theorem CallMath_ISNA (A : Option Addr) (n c : Nat) (w : World) :
    Calls Tryz.prog 93 #[.string (⟨#[73, 83, 78, 65]⟩ : ByteArray), .slice A n c] w fun e w' => e = .returned (.tuple #[(.agg #[.int .i64 0, .int .i64 0, .int .i64 0, .string ⟨#[]⟩, .slice none 0 0]), .bool false]) ∧ Below w.heap.size w w' := by
  go_enter Tryz.func93, Tryz.ntmps93
  go_wp2
  exact bodyPost_ret (v := (.tuple #[(.agg #[.int .i64 0, .int .i64 0, .int .i64 0, .string ⟨#[]⟩, .slice none 0 0]), .bool false])) (by simp [results, Tryz.results93, go_sem]) rfl ⟨rfl, (by (repeat' (first | with_reducible exact Below.refl _ _ | with_reducible refine Below.setCell ?_ ?_ _ | with_reducible refine Below.alloc ?_ ?_ _ | with_reducible refine Below.drew ?_ | with_reducible refine Below.trans ?_ (Below.mono (by assumption) ?_))); all_goals (first | omega | (simp [World.setCell]; done) | (simp [World.setCell]; omega)))⟩

theorem CallText_ISNA (A : Option Addr) (n c : Nat) (w : World) :
    Calls Tryz.prog 94 #[.string (⟨#[73, 83, 78, 65]⟩ : ByteArray), .slice A n c] w fun e w' => e = .returned (.tuple #[(.agg #[.int .i64 0, .int .i64 0, .int .i64 0, .string ⟨#[]⟩, .slice none 0 0]), .bool false]) ∧ Below w.heap.size w w' := by
  go_enter Tryz.func94, Tryz.ntmps94
  go_wp2
  exact bodyPost_ret (v := (.tuple #[(.agg #[.int .i64 0, .int .i64 0, .int .i64 0, .string ⟨#[]⟩, .slice none 0 0]), .bool false])) (by simp [results, Tryz.results94, go_sem]) rfl ⟨rfl, (by (repeat' (first | with_reducible exact Below.refl _ _ | with_reducible refine Below.setCell ?_ ?_ _ | with_reducible refine Below.alloc ?_ ?_ _ | with_reducible refine Below.drew ?_ | with_reducible refine Below.trans ?_ (Below.mono (by assumption) ?_))); all_goals (first | omega | (simp [World.setCell]; done) | (simp [World.setCell]; omega)))⟩

theorem CallLogic_ISNA (A : Option Addr) (n c : Nat) (w : World) :
    Calls Tryz.prog 95 #[.string (⟨#[73, 83, 78, 65]⟩ : ByteArray), .slice A n c] w fun e w' => e = .returned (.tuple #[(.agg #[.int .i64 0, .int .i64 0, .int .i64 0, .string ⟨#[]⟩, .slice none 0 0]), .bool false]) ∧ Below w.heap.size w w' := by
  go_enter Tryz.func95, Tryz.ntmps95
  go_wp2
  exact bodyPost_ret (v := (.tuple #[(.agg #[.int .i64 0, .int .i64 0, .int .i64 0, .string ⟨#[]⟩, .slice none 0 0]), .bool false])) (by simp [results, Tryz.results95, go_sem]) rfl ⟨rfl, (by (repeat' (first | with_reducible exact Below.refl _ _ | with_reducible refine Below.setCell ?_ ?_ _ | with_reducible refine Below.alloc ?_ ?_ _ | with_reducible refine Below.drew ?_ | with_reducible refine Below.trans ?_ (Below.mono (by assumption) ?_))); all_goals (first | omega | (simp [World.setCell]; done) | (simp [World.setCell]; omega)))⟩

theorem told_ISNA_0 (n d : Int) (s : ByteArray) (w : World) :
    Calls Tryz.prog 172 #[.string (⟨#[73, 83, 78, 65]⟩ : ByteArray), (.agg #[.int .i64 0, .int .i64 n, .int .i64 d, .string s, .slice none 0 0])] w fun e w' => e = .returned (.agg #[.int .i64 3, .int .i64 0, .int .i64 0, .string ⟨#[]⟩, .slice none 0 0]) ∧ Below w.heap.size w w' := by
  go_enter Tryz.func172, Tryz.ntmps172
  go_wp2_with fail
  go_fit (bool_any false _)
  rintro e w1 ⟨rfl, hb1⟩
  obtain ⟨hc1, hf1, hz1⟩ := bcell hb1
  simp only [World.size_alloc] at hz1
  have hwlt1 : w.heap.size < w1.heap.size := by omega
  have hwlt2 : w.heap.size + 1 < w1.heap.size := by omega
  go_wp2
  exact bodyPost_ret (v := (.agg #[.int .i64 3, .int .i64 0, .int .i64 0, .string ⟨#[]⟩, .slice none 0 0])) (by simp [results, Tryz.results172, go_sem, hc1, hf1, hwlt1, hwlt2]) rfl ⟨rfl, (by (repeat' (first | with_reducible exact Below.refl _ _ | with_reducible refine Below.setCell ?_ ?_ _ | with_reducible refine Below.alloc ?_ ?_ _ | with_reducible refine Below.drew ?_ | with_reducible refine Below.trans ?_ (Below.mono (by assumption) ?_))); all_goals (first | omega | (simp [World.setCell]; done) | (simp [World.setCell]; omega)))⟩

theorem told_ISNA_1 (n d : Int) (s : ByteArray) (w : World) :
    Calls Tryz.prog 172 #[.string (⟨#[73, 83, 78, 65]⟩ : ByteArray), (.agg #[.int .i64 1, .int .i64 n, .int .i64 d, .string s, .slice none 0 0])] w fun e w' => e = .returned (.agg #[.int .i64 3, .int .i64 0, .int .i64 0, .string ⟨#[]⟩, .slice none 0 0]) ∧ Below w.heap.size w w' := by
  go_enter Tryz.func172, Tryz.ntmps172
  go_wp2_with fail
  go_fit (bool_any false _)
  rintro e w1 ⟨rfl, hb1⟩
  obtain ⟨hc1, hf1, hz1⟩ := bcell hb1
  simp only [World.size_alloc] at hz1
  have hwlt1 : w.heap.size < w1.heap.size := by omega
  have hwlt2 : w.heap.size + 1 < w1.heap.size := by omega
  go_wp2
  exact bodyPost_ret (v := (.agg #[.int .i64 3, .int .i64 0, .int .i64 0, .string ⟨#[]⟩, .slice none 0 0])) (by simp [results, Tryz.results172, go_sem, hc1, hf1, hwlt1, hwlt2]) rfl ⟨rfl, (by (repeat' (first | with_reducible exact Below.refl _ _ | with_reducible refine Below.setCell ?_ ?_ _ | with_reducible refine Below.alloc ?_ ?_ _ | with_reducible refine Below.drew ?_ | with_reducible refine Below.trans ?_ (Below.mono (by assumption) ?_))); all_goals (first | omega | (simp [World.setCell]; done) | (simp [World.setCell]; omega)))⟩

theorem told_ISNA_2 (n d : Int) (s : ByteArray) (w : World) :
    Calls Tryz.prog 172 #[.string (⟨#[73, 83, 78, 65]⟩ : ByteArray), (.agg #[.int .i64 2, .int .i64 n, .int .i64 d, .string s, .slice none 0 0])] w fun e w' => e = .returned (.agg #[.int .i64 3, .int .i64 0, .int .i64 0, .string ⟨#[]⟩, .slice none 0 0]) ∧ Below w.heap.size w w' := by
  go_enter Tryz.func172, Tryz.ntmps172
  go_wp2_with fail
  go_fit (bool_any false _)
  rintro e w1 ⟨rfl, hb1⟩
  obtain ⟨hc1, hf1, hz1⟩ := bcell hb1
  simp only [World.size_alloc] at hz1
  have hwlt1 : w.heap.size < w1.heap.size := by omega
  have hwlt2 : w.heap.size + 1 < w1.heap.size := by omega
  go_wp2
  exact bodyPost_ret (v := (.agg #[.int .i64 3, .int .i64 0, .int .i64 0, .string ⟨#[]⟩, .slice none 0 0])) (by simp [results, Tryz.results172, go_sem, hc1, hf1, hwlt1, hwlt2]) rfl ⟨rfl, (by (repeat' (first | with_reducible exact Below.refl _ _ | with_reducible refine Below.setCell ?_ ?_ _ | with_reducible refine Below.alloc ?_ ?_ _ | with_reducible refine Below.drew ?_ | with_reducible refine Below.trans ?_ (Below.mono (by assumption) ?_))); all_goals (first | omega | (simp [World.setCell]; done) | (simp [World.setCell]; omega)))⟩

theorem told_ISNA_3 (n d : Int) (s : ByteArray) (w : World) :
    Calls Tryz.prog 172 #[.string (⟨#[73, 83, 78, 65]⟩ : ByteArray), (.agg #[.int .i64 3, .int .i64 n, .int .i64 d, .string s, .slice none 0 0])] w fun e w' => e = .returned (.agg #[.int .i64 3, .int .i64 0, .int .i64 0, .string ⟨#[]⟩, .slice none 0 0]) ∧ Below w.heap.size w w' := by
  go_enter Tryz.func172, Tryz.ntmps172
  go_wp2_with fail
  go_fit (bool_any false _)
  rintro e w1 ⟨rfl, hb1⟩
  obtain ⟨hc1, hf1, hz1⟩ := bcell hb1
  simp only [World.size_alloc] at hz1
  have hwlt1 : w.heap.size < w1.heap.size := by omega
  have hwlt2 : w.heap.size + 1 < w1.heap.size := by omega
  go_wp2
  exact bodyPost_ret (v := (.agg #[.int .i64 3, .int .i64 0, .int .i64 0, .string ⟨#[]⟩, .slice none 0 0])) (by simp [results, Tryz.results172, go_sem, hc1, hf1, hwlt1, hwlt2]) rfl ⟨rfl, (by (repeat' (first | with_reducible exact Below.refl _ _ | with_reducible refine Below.setCell ?_ ?_ _ | with_reducible refine Below.alloc ?_ ?_ _ | with_reducible refine Below.drew ?_ | with_reducible refine Below.trans ?_ (Below.mono (by assumption) ?_))); all_goals (first | omega | (simp [World.setCell]; done) | (simp [World.setCell]; omega)))⟩

theorem told_ISNA_4 (n d : Int) (s : ByteArray) (w : World) (hs : (s.toList == [35, 78, 47, 65]) = true) :
    Calls Tryz.prog 172 #[.string (⟨#[73, 83, 78, 65]⟩ : ByteArray), (.agg #[.int .i64 4, .int .i64 n, .int .i64 d, .string s, .slice none 0 0])] w fun e w' => e = .returned (.agg #[.int .i64 3, .int .i64 1, .int .i64 0, .string ⟨#[]⟩, .slice none 0 0]) ∧ Below w.heap.size w w' := by
  go_enter Tryz.func172, Tryz.ntmps172
  go_wp2_with fail
  go_fit (bool_any true _)
  rintro e w1 ⟨rfl, hb1⟩
  obtain ⟨hc1, hf1, hz1⟩ := bcell hb1
  simp only [World.size_alloc] at hz1
  have hwlt1 : w.heap.size < w1.heap.size := by omega
  have hwlt2 : w.heap.size + 1 < w1.heap.size := by omega
  go_wp2
  exact bodyPost_ret (v := (.agg #[.int .i64 3, .int .i64 1, .int .i64 0, .string ⟨#[]⟩, .slice none 0 0])) (by simp [results, Tryz.results172, go_sem, hc1, hf1, hwlt1, hwlt2]) rfl ⟨rfl, (by (repeat' (first | with_reducible exact Below.refl _ _ | with_reducible refine Below.setCell ?_ ?_ _ | with_reducible refine Below.alloc ?_ ?_ _ | with_reducible refine Below.drew ?_ | with_reducible refine Below.trans ?_ (Below.mono (by assumption) ?_))); all_goals (first | omega | (simp [World.setCell]; done) | (simp [World.setCell]; omega)))⟩

theorem told_ISNA_4n (n d : Int) (s : ByteArray) (w : World) (hs : (s.toList == [35, 78, 47, 65]) = false) :
    Calls Tryz.prog 172 #[.string (⟨#[73, 83, 78, 65]⟩ : ByteArray), (.agg #[.int .i64 4, .int .i64 n, .int .i64 d, .string s, .slice none 0 0])] w fun e w' => e = .returned (.agg #[.int .i64 3, .int .i64 0, .int .i64 0, .string ⟨#[]⟩, .slice none 0 0]) ∧ Below w.heap.size w w' := by
  go_enter Tryz.func172, Tryz.ntmps172
  go_wp2_with fail
  go_fit (bool_any false _)
  rintro e w1 ⟨rfl, hb1⟩
  obtain ⟨hc1, hf1, hz1⟩ := bcell hb1
  simp only [World.size_alloc] at hz1
  have hwlt1 : w.heap.size < w1.heap.size := by omega
  have hwlt2 : w.heap.size + 1 < w1.heap.size := by omega
  go_wp2
  exact bodyPost_ret (v := (.agg #[.int .i64 3, .int .i64 0, .int .i64 0, .string ⟨#[]⟩, .slice none 0 0])) (by simp [results, Tryz.results172, go_sem, hc1, hf1, hwlt1, hwlt2]) rfl ⟨rfl, (by (repeat' (first | with_reducible exact Below.refl _ _ | with_reducible refine Below.setCell ?_ ?_ _ | with_reducible refine Below.alloc ?_ ?_ _ | with_reducible refine Below.drew ?_ | with_reducible refine Below.trans ?_ (Below.mono (by assumption) ?_))); all_goals (first | omega | (simp [World.setCell]; done) | (simp [World.setCell]; omega)))⟩

theorem fitsOne_ISNA : FitsOne (⟨#[73, 83, 78, 65]⟩ : ByteArray) := by
  intro b off c x w0 h5 h0 w hbw
  obtain ⟨hlt, c0, c1, c2, c3, c4⟩ := h0.below hbw
  clear h0 hbw w0
  have e5 : (x.k != 5) = true := by simpa using h5
  cases e6 : (x.k != 6)
  · have hk : x.k = 6 := by simpa using e6
    obtain ⟨k, n, d, s⟩ := x
    simp only at hk c0 c1 c2 c3 h5 e5 e6
    subst hk
    go_enter Tryz.func111, Tryz.ntmps111
    go_wp2_with fail
    refine (single_no _ _ _ _).mono ?_
    rintro e w1 ⟨rfl, hb1⟩
    go_wp2
    go_ret2
    exact ⟨rfl, (by (repeat' (first | with_reducible exact Below.refl _ _ | with_reducible refine Below.setCell ?_ ?_ _ | with_reducible refine Below.alloc ?_ ?_ _ | with_reducible refine Below.drew ?_ | with_reducible refine Below.trans ?_ (Below.mono (by assumption) ?_))); all_goals (first | omega | (simp [World.setCell]; done) | (simp [World.setCell]; omega)))⟩
  · go_enter Tryz.func111, Tryz.ntmps111
    go_wp2_with fail
    refine (single_yes _ _ _ _ _ e5 e6).mono ?_
    rintro e w1 ⟨rfl, hb1⟩
    go_wp2
    go_ret2
    exact ⟨rfl, (by (repeat' (first | with_reducible exact Below.refl _ _ | with_reducible refine Below.setCell ?_ ?_ _ | with_reducible refine Below.alloc ?_ ?_ _ | with_reducible refine Below.drew ?_ | with_reducible refine Below.trans ?_ (Below.mono (by assumption) ?_))); all_goals (first | omega | (simp [World.setCell]; done) | (simp [World.setCell]; omega)))⟩

theorem infoOne_ISNA : InfoOne (⟨#[73, 83, 78, 65]⟩ : ByteArray) := by
  intro b off c x Pw w0 h5 h6 h0 ht w hbw
  obtain ⟨hlt, c0, c1, c2, c3, c4⟩ := h0.below hbw
  clear h0 hbw w0
  have e5 : (x.k == 5) = false := by simpa using h5
  have e6 : (x.k == 6) = false := by simpa using h6
  have z0 := Zero5.new w
  go_enter Tryz.func96, Tryz.ntmps96
  go_wp2_with fail
  refine (ht _).mono ?_
  rintro e w1 ⟨y, hy, rfl, hb1⟩
  obtain ⟨q, q0, q1, q2, q3, q4, qf⟩ := z0.below hb1
  clear z0
  go_wp2
  exact bodyPost_ret (v := (.tuple #[(.agg #[.int .i64 y.k, .int .i64 y.n, .int .i64 y.d, .string y.s, .slice none 0 0]), .bool true])) (by simp [results, Tryz.results96, go_sem, q, q0, q1, q2, q3, q4, qf]) rfl ⟨⟨y, none, 0, 0⟩, rfl, ⟨y, hy, rfl⟩, (by (repeat' (first | with_reducible exact Below.refl _ _ | with_reducible refine Below.setCell ?_ ?_ _ | with_reducible refine Below.alloc ?_ ?_ _ | with_reducible refine Below.drew ?_ | with_reducible refine Below.trans ?_ (Below.mono (by assumption) ?_))); all_goals (first | omega | (simp [World.setCell]; done) | (simp [World.setCell]; omega)))⟩

theorem ff_ISNA_0 (p : Addr) (LB E : Nat) (w : World) (h : List1 w LB E (.iface 78 (.agg #[.string ⟨#[]⟩, .float .f64 0, .string ⟨#[]⟩, .slice none 0 0, .slice none 0 0, .bool false, .string ⟨#[]⟩, .int .u8 6, .pointer none, .pointer none]))) :
    Calls Tryz.prog 73 #[.pointer (some p), .pointer (some ⟨LB, 0, none⟩)] w fun e w' => e = .returned (.agg #[.string ⟨#[]⟩, .float .f64 (bb false), .string ⟨#[]⟩, .slice none 0 0, .slice none 0 0, .bool true, .string ⟨#[]⟩, .int .u8 1, .pointer none, .pointer none]) ∧ Below w.heap.size w w' := by
  obtain ⟨hlt, hlte, r0, r1, r4, e0, e2, e3⟩ := h
  have r0' : ∀ o, (w.alloc o).cell? ⟨LB, 0, none⟩ = some (.pointer (some ⟨E, 0, none⟩)) := fun o => (World.cell?_alloc_lt _ _ _ hlt).trans r0
  have r4' : ∀ o, (w.alloc o).cell? ⟨LB, 4, none⟩ = some (.int .i64 1) := fun o => (World.cell?_alloc_lt _ _ _ hlt).trans r4
  go_enter Tryz.func73, Tryz.ntmps73
  go_wp2_with (first | (go_at_call 98; refine (len_any _ _ _ (r4' _)).mono ?_; rintro e v1 ⟨rfl, rfl⟩) | (go_at_call 100; refine (front_any _ _ _ _ (r0' _) (r4' _) (by decide)).mono ?_; rintro e v2 ⟨rfl, rfl⟩) | (go_at_call 101; refine (newBool_any false _).mono ?_; rintro e w1 ⟨rfl, hb1⟩; obtain ⟨hc1, hf1, hz1⟩ := bcell hb1; try simp only [World.size_alloc, size_setCell] at hz1; have hwlt1 : w.heap.size < w1.heap.size := (by omega); have hpp : w.heap.size < w.heap.size + 1 + 1 := (by omega); have hpq : w.heap.size < w.heap.size + 1 + 1 + 1 := (by omega)))
  exact bodyPost_ret (v := (.agg #[.string ⟨#[]⟩, .float .f64 (bb false), .string ⟨#[]⟩, .slice none 0 0, .slice none 0 0, .bool true, .string ⟨#[]⟩, .int .u8 1, .pointer none, .pointer none])) (by simp [results, Tryz.results73, go_sem, hc1, hf1, hwlt1, hpp, hpq]) rfl ⟨rfl, (by (repeat' (first | with_reducible exact Below.refl _ _ | with_reducible refine Below.setCell ?_ ?_ _ | with_reducible refine Below.alloc ?_ ?_ _ | with_reducible refine Below.drew ?_ | with_reducible refine Below.trans ?_ (Below.mono (by assumption) ?_))); all_goals (first | omega | (simp [World.setCell]; done) | (simp [World.setCell]; omega)))⟩

theorem ff_ISNA_1 (p : Addr) (LB E : Nat) (x : Nat) (w : World) (h : List1 w LB E (.iface 78 (.agg #[.string ⟨#[]⟩, .float .f64 x, .string ⟨#[]⟩, .slice none 0 0, .slice none 0 0, .bool false, .string ⟨#[]⟩, .int .u8 1, .pointer none, .pointer none]))) :
    Calls Tryz.prog 73 #[.pointer (some p), .pointer (some ⟨LB, 0, none⟩)] w fun e w' => e = .returned (.agg #[.string ⟨#[]⟩, .float .f64 (bb false), .string ⟨#[]⟩, .slice none 0 0, .slice none 0 0, .bool true, .string ⟨#[]⟩, .int .u8 1, .pointer none, .pointer none]) ∧ Below w.heap.size w w' := by
  obtain ⟨hlt, hlte, r0, r1, r4, e0, e2, e3⟩ := h
  have r0' : ∀ o, (w.alloc o).cell? ⟨LB, 0, none⟩ = some (.pointer (some ⟨E, 0, none⟩)) := fun o => (World.cell?_alloc_lt _ _ _ hlt).trans r0
  have r4' : ∀ o, (w.alloc o).cell? ⟨LB, 4, none⟩ = some (.int .i64 1) := fun o => (World.cell?_alloc_lt _ _ _ hlt).trans r4
  go_enter Tryz.func73, Tryz.ntmps73
  go_wp2_with (first | (go_at_call 98; refine (len_any _ _ _ (r4' _)).mono ?_; rintro e v1 ⟨rfl, rfl⟩) | (go_at_call 100; refine (front_any _ _ _ _ (r0' _) (r4' _) (by decide)).mono ?_; rintro e v2 ⟨rfl, rfl⟩) | (go_at_call 101; refine (newBool_any false _).mono ?_; rintro e w1 ⟨rfl, hb1⟩; obtain ⟨hc1, hf1, hz1⟩ := bcell hb1; try simp only [World.size_alloc, size_setCell] at hz1; have hwlt1 : w.heap.size < w1.heap.size := (by omega); have hpp : w.heap.size < w.heap.size + 1 + 1 := (by omega); have hpq : w.heap.size < w.heap.size + 1 + 1 + 1 := (by omega)))
  exact bodyPost_ret (v := (.agg #[.string ⟨#[]⟩, .float .f64 (bb false), .string ⟨#[]⟩, .slice none 0 0, .slice none 0 0, .bool true, .string ⟨#[]⟩, .int .u8 1, .pointer none, .pointer none])) (by simp [results, Tryz.results73, go_sem, hc1, hf1, hwlt1, hpp, hpq]) rfl ⟨rfl, (by (repeat' (first | with_reducible exact Below.refl _ _ | with_reducible refine Below.setCell ?_ ?_ _ | with_reducible refine Below.alloc ?_ ?_ _ | with_reducible refine Below.drew ?_ | with_reducible refine Below.trans ?_ (Below.mono (by assumption) ?_))); all_goals (first | omega | (simp [World.setCell]; done) | (simp [World.setCell]; omega)))⟩

theorem ff_ISNA_2 (p : Addr) (LB E : Nat) (s : ByteArray) (w : World) (h : List1 w LB E (.iface 78 (.agg #[.string ⟨#[]⟩, .float .f64 0, .string s, .slice none 0 0, .slice none 0 0, .bool false, .string ⟨#[]⟩, .int .u8 2, .pointer none, .pointer none]))) :
    Calls Tryz.prog 73 #[.pointer (some p), .pointer (some ⟨LB, 0, none⟩)] w fun e w' => e = .returned (.agg #[.string ⟨#[]⟩, .float .f64 (bb false), .string ⟨#[]⟩, .slice none 0 0, .slice none 0 0, .bool true, .string ⟨#[]⟩, .int .u8 1, .pointer none, .pointer none]) ∧ Below w.heap.size w w' := by
  obtain ⟨hlt, hlte, r0, r1, r4, e0, e2, e3⟩ := h
  have r0' : ∀ o, (w.alloc o).cell? ⟨LB, 0, none⟩ = some (.pointer (some ⟨E, 0, none⟩)) := fun o => (World.cell?_alloc_lt _ _ _ hlt).trans r0
  have r4' : ∀ o, (w.alloc o).cell? ⟨LB, 4, none⟩ = some (.int .i64 1) := fun o => (World.cell?_alloc_lt _ _ _ hlt).trans r4
  go_enter Tryz.func73, Tryz.ntmps73
  go_wp2_with (first | (go_at_call 98; refine (len_any _ _ _ (r4' _)).mono ?_; rintro e v1 ⟨rfl, rfl⟩) | (go_at_call 100; refine (front_any _ _ _ _ (r0' _) (r4' _) (by decide)).mono ?_; rintro e v2 ⟨rfl, rfl⟩) | (go_at_call 101; refine (newBool_any false _).mono ?_; rintro e w1 ⟨rfl, hb1⟩; obtain ⟨hc1, hf1, hz1⟩ := bcell hb1; try simp only [World.size_alloc, size_setCell] at hz1; have hwlt1 : w.heap.size < w1.heap.size := (by omega); have hpp : w.heap.size < w.heap.size + 1 + 1 := (by omega); have hpq : w.heap.size < w.heap.size + 1 + 1 + 1 := (by omega)))
  exact bodyPost_ret (v := (.agg #[.string ⟨#[]⟩, .float .f64 (bb false), .string ⟨#[]⟩, .slice none 0 0, .slice none 0 0, .bool true, .string ⟨#[]⟩, .int .u8 1, .pointer none, .pointer none])) (by simp [results, Tryz.results73, go_sem, hc1, hf1, hwlt1, hpp, hpq]) rfl ⟨rfl, (by (repeat' (first | with_reducible exact Below.refl _ _ | with_reducible refine Below.setCell ?_ ?_ _ | with_reducible refine Below.alloc ?_ ?_ _ | with_reducible refine Below.drew ?_ | with_reducible refine Below.trans ?_ (Below.mono (by assumption) ?_))); all_goals (first | omega | (simp [World.setCell]; done) | (simp [World.setCell]; omega)))⟩

theorem ff_ISNA_3 (p : Addr) (LB E : Nat) (x : Nat) (w : World) (h : List1 w LB E (.iface 78 (.agg #[.string ⟨#[]⟩, .float .f64 x, .string ⟨#[]⟩, .slice none 0 0, .slice none 0 0, .bool true, .string ⟨#[]⟩, .int .u8 1, .pointer none, .pointer none]))) :
    Calls Tryz.prog 73 #[.pointer (some p), .pointer (some ⟨LB, 0, none⟩)] w fun e w' => e = .returned (.agg #[.string ⟨#[]⟩, .float .f64 (bb false), .string ⟨#[]⟩, .slice none 0 0, .slice none 0 0, .bool true, .string ⟨#[]⟩, .int .u8 1, .pointer none, .pointer none]) ∧ Below w.heap.size w w' := by
  obtain ⟨hlt, hlte, r0, r1, r4, e0, e2, e3⟩ := h
  have r0' : ∀ o, (w.alloc o).cell? ⟨LB, 0, none⟩ = some (.pointer (some ⟨E, 0, none⟩)) := fun o => (World.cell?_alloc_lt _ _ _ hlt).trans r0
  have r4' : ∀ o, (w.alloc o).cell? ⟨LB, 4, none⟩ = some (.int .i64 1) := fun o => (World.cell?_alloc_lt _ _ _ hlt).trans r4
  go_enter Tryz.func73, Tryz.ntmps73
  go_wp2_with (first | (go_at_call 98; refine (len_any _ _ _ (r4' _)).mono ?_; rintro e v1 ⟨rfl, rfl⟩) | (go_at_call 100; refine (front_any _ _ _ _ (r0' _) (r4' _) (by decide)).mono ?_; rintro e v2 ⟨rfl, rfl⟩) | (go_at_call 101; refine (newBool_any false _).mono ?_; rintro e w1 ⟨rfl, hb1⟩; obtain ⟨hc1, hf1, hz1⟩ := bcell hb1; try simp only [World.size_alloc, size_setCell] at hz1; have hwlt1 : w.heap.size < w1.heap.size := (by omega); have hpp : w.heap.size < w.heap.size + 1 + 1 := (by omega); have hpq : w.heap.size < w.heap.size + 1 + 1 + 1 := (by omega)))
  exact bodyPost_ret (v := (.agg #[.string ⟨#[]⟩, .float .f64 (bb false), .string ⟨#[]⟩, .slice none 0 0, .slice none 0 0, .bool true, .string ⟨#[]⟩, .int .u8 1, .pointer none, .pointer none])) (by simp [results, Tryz.results73, go_sem, hc1, hf1, hwlt1, hpp, hpq]) rfl ⟨rfl, (by (repeat' (first | with_reducible exact Below.refl _ _ | with_reducible refine Below.setCell ?_ ?_ _ | with_reducible refine Below.alloc ?_ ?_ _ | with_reducible refine Below.drew ?_ | with_reducible refine Below.trans ?_ (Below.mono (by assumption) ?_))); all_goals (first | omega | (simp [World.setCell]; done) | (simp [World.setCell]; omega)))⟩

theorem ff_ISNA_4 (p : Addr) (LB E : Nat) (s : ByteArray) (hs : (s.toList == [35, 78, 47, 65]) = true) (w : World) (h : List1 w LB E (.iface 78 (.agg #[.string ⟨#[]⟩, .float .f64 0, .string s, .slice none 0 0, .slice none 0 0, .bool false, .string s, .int .u8 5, .pointer none, .pointer none]))) :
    Calls Tryz.prog 73 #[.pointer (some p), .pointer (some ⟨LB, 0, none⟩)] w fun e w' => e = .returned (.agg #[.string ⟨#[]⟩, .float .f64 (bb true), .string ⟨#[]⟩, .slice none 0 0, .slice none 0 0, .bool true, .string ⟨#[]⟩, .int .u8 1, .pointer none, .pointer none]) ∧ Below w.heap.size w w' := by
  obtain ⟨hlt, hlte, r0, r1, r4, e0, e2, e3⟩ := h
  have r0' : ∀ o, (w.alloc o).cell? ⟨LB, 0, none⟩ = some (.pointer (some ⟨E, 0, none⟩)) := fun o => (World.cell?_alloc_lt _ _ _ hlt).trans r0
  have r4' : ∀ o, (w.alloc o).cell? ⟨LB, 4, none⟩ = some (.int .i64 1) := fun o => (World.cell?_alloc_lt _ _ _ hlt).trans r4
  go_enter Tryz.func73, Tryz.ntmps73
  go_wp2_with (first | (go_at_call 98; refine (len_any _ _ _ (r4' _)).mono ?_; rintro e v1 ⟨rfl, rfl⟩) | (go_at_call 100; refine (front_any _ _ _ _ (r0' _) (r4' _) (by decide)).mono ?_; rintro e v2 ⟨rfl, rfl⟩) | (go_at_call 101; refine (newBool_any true _).mono ?_; rintro e w1 ⟨rfl, hb1⟩; obtain ⟨hc1, hf1, hz1⟩ := bcell hb1; try simp only [World.size_alloc, size_setCell] at hz1; have hwlt1 : w.heap.size < w1.heap.size := (by omega); have hpp : w.heap.size < w.heap.size + 1 + 1 := (by omega); have hpq : w.heap.size < w.heap.size + 1 + 1 + 1 := (by omega)))
  exact bodyPost_ret (v := (.agg #[.string ⟨#[]⟩, .float .f64 (bb true), .string ⟨#[]⟩, .slice none 0 0, .slice none 0 0, .bool true, .string ⟨#[]⟩, .int .u8 1, .pointer none, .pointer none])) (by simp [results, Tryz.results73, go_sem, hc1, hf1, hwlt1, hpp, hpq]) rfl ⟨rfl, (by (repeat' (first | with_reducible exact Below.refl _ _ | with_reducible refine Below.setCell ?_ ?_ _ | with_reducible refine Below.alloc ?_ ?_ _ | with_reducible refine Below.drew ?_ | with_reducible refine Below.trans ?_ (Below.mono (by assumption) ?_))); all_goals (first | omega | (simp [World.setCell]; done) | (simp [World.setCell]; omega)))⟩

theorem ff_ISNA_4n (p : Addr) (LB E : Nat) (s : ByteArray) (hs : (s.toList == [35, 78, 47, 65]) = false) (w : World) (h : List1 w LB E (.iface 78 (.agg #[.string ⟨#[]⟩, .float .f64 0, .string s, .slice none 0 0, .slice none 0 0, .bool false, .string s, .int .u8 5, .pointer none, .pointer none]))) :
    Calls Tryz.prog 73 #[.pointer (some p), .pointer (some ⟨LB, 0, none⟩)] w fun e w' => e = .returned (.agg #[.string ⟨#[]⟩, .float .f64 (bb false), .string ⟨#[]⟩, .slice none 0 0, .slice none 0 0, .bool true, .string ⟨#[]⟩, .int .u8 1, .pointer none, .pointer none]) ∧ Below w.heap.size w w' := by
  obtain ⟨hlt, hlte, r0, r1, r4, e0, e2, e3⟩ := h
  have r0' : ∀ o, (w.alloc o).cell? ⟨LB, 0, none⟩ = some (.pointer (some ⟨E, 0, none⟩)) := fun o => (World.cell?_alloc_lt _ _ _ hlt).trans r0
  have r4' : ∀ o, (w.alloc o).cell? ⟨LB, 4, none⟩ = some (.int .i64 1) := fun o => (World.cell?_alloc_lt _ _ _ hlt).trans r4
  go_enter Tryz.func73, Tryz.ntmps73
  go_wp2_with (first | (go_at_call 98; refine (len_any _ _ _ (r4' _)).mono ?_; rintro e v1 ⟨rfl, rfl⟩) | (go_at_call 100; refine (front_any _ _ _ _ (r0' _) (r4' _) (by decide)).mono ?_; rintro e v2 ⟨rfl, rfl⟩) | (go_at_call 101; refine (newBool_any false _).mono ?_; rintro e w1 ⟨rfl, hb1⟩; obtain ⟨hc1, hf1, hz1⟩ := bcell hb1; try simp only [World.size_alloc, size_setCell] at hz1; have hwlt1 : w.heap.size < w1.heap.size := (by omega); have hpp : w.heap.size < w.heap.size + 1 + 1 := (by omega); have hpq : w.heap.size < w.heap.size + 1 + 1 + 1 := (by omega)))
  exact bodyPost_ret (v := (.agg #[.string ⟨#[]⟩, .float .f64 (bb false), .string ⟨#[]⟩, .slice none 0 0, .slice none 0 0, .bool true, .string ⟨#[]⟩, .int .u8 1, .pointer none, .pointer none])) (by simp [results, Tryz.results73, go_sem, hc1, hf1, hwlt1, hpp, hpq]) rfl ⟨rfl, (by (repeat' (first | with_reducible exact Below.refl _ _ | with_reducible refine Below.setCell ?_ ?_ _ | with_reducible refine Below.alloc ?_ ?_ _ | with_reducible refine Below.drew ?_ | with_reducible refine Below.trans ?_ (Below.mono (by assumption) ?_))); all_goals (first | omega | (simp [World.setCell]; done) | (simp [World.setCell]; omega)))⟩

end Go.Proofs.YtkkmfpjmnebjaaaGreat
