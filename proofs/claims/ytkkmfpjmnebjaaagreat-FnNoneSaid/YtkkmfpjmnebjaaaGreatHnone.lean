/- TRUE, FALSE, NA: what the reference and the package say, and that both agree; ISNA of NA. -/
import Derived.Test.YtkkmfpjmnebjaaaGreatNl
import Derived.Test.YtkkmfpjmnebjaaaGreatW
import Derived.Test.YtkkmfpjmnebjaaaGreatHisna
set_option linter.unusedSimpArgs false
set_option linter.unusedVariables false
namespace Go.Proofs.YtkkmfpjmnebjaaaGreat
open Go.RowKit
set_option maxRecDepth 100000
set_option maxHeartbeats 1000000

theorem fitsNumbers_TRUE (A : Option Addr) (L : List Ve) (c : Nat) (w : World) (hL : Args w A L) :
    Calls Tryz.prog 109 #[.string (⟨#[84, 82, 85, 69]⟩ : ByteArray), .slice A L.length c] w fun e w' => e = .returned (.tuple #[.bool false, .bool false]) ∧ Below w.heap.size w w' := by
  have HE := numeric_all A L c w hL
  go_enter Tryz.func109, Tryz.ntmps109
  go_wp2_with fail
  refine HE.mono ?_
  rintro e w1 ⟨r, rfl, hb1⟩
  go_wp2
  go_ret2
  exact ⟨rfl, hb1⟩

theorem fitsTexts_TRUE (A : Option Addr) (n c : Nat) (w : World) :
    Calls Tryz.prog 110 #[.string (⟨#[84, 82, 85, 69]⟩ : ByteArray), .slice A n c] w fun e w' => e = .returned (.tuple #[.bool false, .bool false]) ∧ Below w.heap.size w w' := by
  go_enter Tryz.func110, Tryz.ntmps110
  go_wp2
  go_ret2
  exact ⟨rfl, (by (repeat' (first | with_reducible exact Below.refl _ _ | with_reducible refine Below.setCell ?_ ?_ _ | with_reducible refine Below.alloc ?_ ?_ _ | with_reducible refine Below.drew ?_ | with_reducible refine Below.trans ?_ (Below.mono (by assumption) ?_))); all_goals (first | omega | (simp [World.setCell]; done) | (simp [World.setCell]; omega)))⟩

theorem fitsChoices_TRUE (A : Option Addr) (n c : Nat) (w : World) :
    Calls Tryz.prog 111 #[.string (⟨#[84, 82, 85, 69]⟩ : ByteArray), .slice A n c] w fun e w' => e = .returned (.tuple #[.bool false, .bool false]) ∧ Below w.heap.size w w' := by
  go_enter Tryz.func111, Tryz.ntmps111
  go_wp2
  go_ret2
  exact ⟨rfl, (by (repeat' (first | with_reducible exact Below.refl _ _ | with_reducible refine Below.setCell ?_ ?_ _ | with_reducible refine Below.alloc ?_ ?_ _ | with_reducible refine Below.drew ?_ | with_reducible refine Below.trans ?_ (Below.mono (by assumption) ?_))); all_goals (first | omega | (simp [World.setCell]; done) | (simp [World.setCell]; omega)))⟩

theorem Stat_TRUE (A : Option Addr) (n c : Nat) (w : World) :
    Calls Tryz.prog 90 #[.string (⟨#[84, 82, 85, 69]⟩ : ByteArray), .slice A n c] w fun e w' => e = .returned (.tuple #[(.agg #[.int .i64 0, .int .i64 0, .int .i64 0, .string ⟨#[]⟩, .slice none 0 0]), .bool false]) ∧ Below w.heap.size w w' := by
  go_enter Tryz.func90, Tryz.ntmps90
  go_wp2
  exact bodyPost_ret (v := (.tuple #[(.agg #[.int .i64 0, .int .i64 0, .int .i64 0, .string ⟨#[]⟩, .slice none 0 0]), .bool false])) (by simp [results, Tryz.results90, go_sem]) rfl ⟨rfl, (by (repeat' (first | with_reducible exact Below.refl _ _ | with_reducible refine Below.setCell ?_ ?_ _ | with_reducible refine Below.alloc ?_ ?_ _ | with_reducible refine Below.drew ?_ | with_reducible refine Below.trans ?_ (Below.mono (by assumption) ?_))); all_goals (first | omega | (simp [World.setCell]; done) | (simp [World.setCell]; omega)))⟩

theorem Criteria_TRUE (A : Option Addr) (n c : Nat) (w : World) :
    Calls Tryz.prog 91 #[.string (⟨#[84, 82, 85, 69]⟩ : ByteArray), .slice A n c] w fun e w' => e = .returned (.tuple #[(.agg #[.int .i64 0, .int .i64 0, .int .i64 0, .string ⟨#[]⟩, .slice none 0 0]), .bool false]) ∧ Below w.heap.size w w' := by
  go_enter Tryz.func91, Tryz.ntmps91
  go_wp2
  exact bodyPost_ret (v := (.tuple #[(.agg #[.int .i64 0, .int .i64 0, .int .i64 0, .string ⟨#[]⟩, .slice none 0 0]), .bool false])) (by simp [results, Tryz.results91, go_sem]) rfl ⟨rfl, (by (repeat' (first | with_reducible exact Below.refl _ _ | with_reducible refine Below.setCell ?_ ?_ _ | with_reducible refine Below.alloc ?_ ?_ _ | with_reducible refine Below.drew ?_ | with_reducible refine Below.trans ?_ (Below.mono (by assumption) ?_))); all_goals (first | omega | (simp [World.setCell]; done) | (simp [World.setCell]; omega)))⟩

theorem Lookup_TRUE (A : Option Addr) (n c : Nat) (w : World) :
    Calls Tryz.prog 92 #[.string (⟨#[84, 82, 85, 69]⟩ : ByteArray), .slice A n c] w fun e w' => e = .returned (.tuple #[(.agg #[.int .i64 0, .int .i64 0, .int .i64 0, .string ⟨#[]⟩, .slice none 0 0]), .bool false]) ∧ Below w.heap.size w w' := by
  go_enter Tryz.func92, Tryz.ntmps92
  go_wp2
  exact bodyPost_ret (v := (.tuple #[(.agg #[.int .i64 0, .int .i64 0, .int .i64 0, .string ⟨#[]⟩, .slice none 0 0]), .bool false])) (by simp [results, Tryz.results92, go_sem]) rfl ⟨rfl, (by (repeat' (first | with_reducible exact Below.refl _ _ | with_reducible refine Below.setCell ?_ ?_ _ | with_reducible refine Below.alloc ?_ ?_ _ | with_reducible refine Below.drew ?_ | with_reducible refine Below.trans ?_ (Below.mono (by assumption) ?_))); all_goals (first | omega | (simp [World.setCell]; done) | (simp [World.setCell]; omega)))⟩

theorem CallMath_TRUE (A : Option Addr) (n c : Nat) (w : World) :
    Calls Tryz.prog 93 #[.string (⟨#[84, 82, 85, 69]⟩ : ByteArray), .slice A n c] w fun e w' => e = .returned (.tuple #[(.agg #[.int .i64 0, .int .i64 0, .int .i64 0, .string ⟨#[]⟩, .slice none 0 0]), .bool false]) ∧ Below w.heap.size w w' := by
  go_enter Tryz.func93, Tryz.ntmps93
  go_wp2
  exact bodyPost_ret (v := (.tuple #[(.agg #[.int .i64 0, .int .i64 0, .int .i64 0, .string ⟨#[]⟩, .slice none 0 0]), .bool false])) (by simp [results, Tryz.results93, go_sem]) rfl ⟨rfl, (by (repeat' (first | with_reducible exact Below.refl _ _ | with_reducible refine Below.setCell ?_ ?_ _ | with_reducible refine Below.alloc ?_ ?_ _ | with_reducible refine Below.drew ?_ | with_reducible refine Below.trans ?_ (Below.mono (by assumption) ?_))); all_goals (first | omega | (simp [World.setCell]; done) | (simp [World.setCell]; omega)))⟩

theorem CallText_TRUE (A : Option Addr) (n c : Nat) (w : World) :
    Calls Tryz.prog 94 #[.string (⟨#[84, 82, 85, 69]⟩ : ByteArray), .slice A n c] w fun e w' => e = .returned (.tuple #[(.agg #[.int .i64 0, .int .i64 0, .int .i64 0, .string ⟨#[]⟩, .slice none 0 0]), .bool false]) ∧ Below w.heap.size w w' := by
  go_enter Tryz.func94, Tryz.ntmps94
  go_wp2
  exact bodyPost_ret (v := (.tuple #[(.agg #[.int .i64 0, .int .i64 0, .int .i64 0, .string ⟨#[]⟩, .slice none 0 0]), .bool false])) (by simp [results, Tryz.results94, go_sem]) rfl ⟨rfl, (by (repeat' (first | with_reducible exact Below.refl _ _ | with_reducible refine Below.setCell ?_ ?_ _ | with_reducible refine Below.alloc ?_ ?_ _ | with_reducible refine Below.drew ?_ | with_reducible refine Below.trans ?_ (Below.mono (by assumption) ?_))); all_goals (first | omega | (simp [World.setCell]; done) | (simp [World.setCell]; omega)))⟩


theorem others_TRUE (w : World) : Calls Tryz.prog 112 #[.string (⟨#[84, 82, 85, 69]⟩ : ByteArray)] w fun e w' => e = .returned (.bool true) ∧ Below w.heap.size w w' := by
  go_enter Tryz.func112, Tryz.ntmps112
  go_wp2
  go_ret
  exact ⟨rfl, (by (repeat' (first | with_reducible exact Below.refl _ _ | with_reducible refine Below.setCell ?_ ?_ _ | with_reducible refine Below.alloc ?_ ?_ _ | with_reducible refine Below.drew ?_ | with_reducible refine Below.trans ?_ (Below.mono (by assumption) ?_))); all_goals (first | omega | (simp [World.setCell]; done) | (simp [World.setCell]; omega)))⟩

theorem here_TRUE (w0 : World) : Here 95 (⟨#[84, 82, 85, 69]⟩ : ByteArray) none 0 0 (FlatP fun y => y = ⟨3, 1, 0, ⟨#[]⟩⟩) w0 := by
  intro w _
  have z0 := Zero5.new w
  go_enter Tryz.func95, Tryz.ntmps95
  go_wp2_with fail
  go_fit (bool_any true _)
  rintro e w1 ⟨rfl, hb1⟩
  obtain ⟨q, q0, q1, q2, q3, q4, qf⟩ := z0.below hb1
  clear z0
  go_wp2
  exact bodyPost_ret (v := (.tuple #[(.agg #[.int .i64 3, .int .i64 1, .int .i64 0, .string ⟨#[]⟩, .slice none 0 0]), .bool true])) (by simp [results, Tryz.results95, go_sem, q, q0, q1, q2, q3, q4, qf]) rfl ⟨⟨⟨3, 1, 0, ⟨#[]⟩⟩, none, 0, 0⟩, rfl, ⟨⟨3, 1, 0, ⟨#[]⟩⟩, rfl, rfl⟩, (by (repeat' (first | with_reducible exact Below.refl _ _ | with_reducible refine Below.setCell ?_ ?_ _ | with_reducible refine Below.alloc ?_ ?_ _ | with_reducible refine Below.drew ?_ | with_reducible refine Below.trans ?_ (Below.mono (by assumption) ?_))); all_goals (first | omega | (simp [World.setCell]; done) | (simp [World.setCell]; omega)))⟩

theorem call_TRUE (w : World) : Calls Tryz.prog 38 #[.string (⟨#[84, 82, 85, 69]⟩ : ByteArray), .slice none 0 0] w fun e w' => ∃ y : Fv, y = ⟨3, 1, 0, ⟨#[]⟩⟩ ∧ e = .returned (.agg #[.int .i64 y.k, .int .i64 y.n, .int .i64 y.d, .string y.s, .slice none 0 0]) ∧ Below w.heap.size w w' :=
  (call_over (⟨#[84, 82, 85, 69]⟩ : ByteArray) none 0 0 (FlatP fun y => y = ⟨3, 1, 0, ⟨#[]⟩⟩) (FlatP.lasts _) w fun W _ =>
    over_CallLogic _ _ _ _ _ (FlatP.lasts _) W
      (fun W2 _ => fits_others _ _ _ _ W2 (fun W3 _ => fitsNumbers_TRUE none [] 0 W3 ⟨by simp, by simp, .inl ⟨rfl, rfl⟩⟩) (fun W3 _ => fitsTexts_TRUE _ _ _ W3) (fun W3 _ => fitsChoices_TRUE _ _ _ W3) (fun W3 => others_TRUE W3))
      (Stat_TRUE _ _ _) (Criteria_TRUE _ _ _) (Lookup_TRUE _ _ _) (CallMath_TRUE _ _ _) (CallText_TRUE _ _ _) (here_TRUE W)).mono fun e w1 h => h.flatP

theorem ff_TRUE (p : Addr) (LB : Nat) (w : World) (h : IsList w LB [] []) :
    Calls Tryz.prog 87 #[.pointer (some p), .pointer (some ⟨LB, 0, none⟩)] w fun e w' => e = .returned (.agg #[.string ⟨#[]⟩, .float .f64 (bb true), .string ⟨#[]⟩, .slice none 0 0, .slice none 0 0, .bool true, .string ⟨#[]⟩, .int .u8 1, .pointer none, .pointer none]) ∧ Below w.heap.size w w' := by
  have hlt := h.lt
  have r4 : w.cell? ⟨LB, 4, none⟩ = some (.int .i64 0) := by rw [h.root.cell]; rfl
  have r4' : ∀ o, (w.alloc o).cell? ⟨LB, 4, none⟩ = some (.int .i64 0) := fun o => (World.cell?_alloc_lt _ _ _ hlt).trans r4
  go_enter Tryz.func87, Tryz.ntmps87
  go_wp2_with (first | (go_at_call 98; refine (len_any _ _ _ (r4' _)).mono ?_; rintro e v1 ⟨rfl, rfl⟩) | (go_at_call 101; refine (newBool_any true _).mono ?_; rintro e w1 ⟨rfl, hb1⟩; obtain ⟨hc1, hf1, hz1⟩ := bcell hb1; try simp only [World.size_alloc, size_setCell] at hz1; have hwlt1 : w.heap.size < w1.heap.size := (by omega)))
  exact bodyPost_ret (v := (.agg #[.string ⟨#[]⟩, .float .f64 (bb true), .string ⟨#[]⟩, .slice none 0 0, .slice none 0 0, .bool true, .string ⟨#[]⟩, .int .u8 1, .pointer none, .pointer none])) (by simp [results, Tryz.results87, go_sem, hc1, hf1, hwlt1]) rfl ⟨rfl, (by (repeat' (first | with_reducible exact Below.refl _ _ | with_reducible refine Below.setCell ?_ ?_ _ | with_reducible refine Below.alloc ?_ ?_ _ | with_reducible refine Below.drew ?_ | with_reducible refine Below.trans ?_ (Below.mono (by assumption) ?_))); all_goals (first | omega | (simp [World.setCell]; done) | (simp [World.setCell]; omega)))⟩

theorem door_TRUE (w : World) : Calls Tryz.prog 66 #[.slice none 0 0] w fun e w' => e = .returned (.agg #[.int .i64 3, .float .f64 (bb true), .string ⟨#[]⟩, .slice none 0 0]) ∧ Below w.heap.size w w' := by
  have z0 := Zero4.new w 56
  have hbA : Below w.heap.size w (w.alloc (.cells #[.int .i64 0, .float .f64 0, .string ⟨#[]⟩, .slice none 0 0] 56)) := (Below.refl _ _).alloc (Nat.le_refl _) _
  go_enter Tryz.func66, Tryz.ntmps66
  go_wp2_with fail
  refine (doorFuncs_any _).mono ?_
  rintro e w1 ⟨rfl, hb1⟩
  have hbw1 := hbA.trans (hb1.mono (by simp))
  have z1 := z0.below hb1
  go_wp2_with fail
  refine (innerList_nil _).mono ?_
  rintro e w2 ⟨rfl, ⟨es, hl⟩, hb2⟩
  have hes : es = [] := by have := hl.len; simpa using this
  subst hes
  have hbw2 := hbw1.trans (hb2.mono hbw1.size)
  have z2 := z1.below hb2
  go_wp2_with fail
  refine (ff_TRUE _ _ _ hl).mono ?_
  rintro e w3 ⟨rfl, hb3⟩
  have hbw3 := hbw2.trans (hb3.mono hbw2.size)
  have z3 := z2.below hb3
  go_wp2_with fail
  refine (doorArg_bool (bb true) _).mono ?_
  rintro e w4 ⟨rfl, hb4⟩
  have hbw := hbw3.trans (hb4.mono hbw3.size)
  obtain ⟨q, q0, q1, q2, q3, qf⟩ := z3.below hb4
  clear z0 z1 z2 z3 hb1 hb2 hb3 hb4 hbw1 hbw2 hbw3 hbA hl
  go_wp2
  exact bodyPost_ret (v := (.agg #[.int .i64 3, .float .f64 (bb true), .string ⟨#[]⟩, .slice none 0 0])) (by simp [results, Tryz.results66, go_sem, q, q0, q1, q2, q3, qf]) rfl ⟨rfl, (by (repeat' (first | with_reducible exact Below.refl _ _ | with_reducible refine Below.setCell ?_ ?_ _ | with_reducible refine Below.alloc ?_ ?_ _ | with_reducible refine Below.drew ?_ | with_reducible refine Below.trans ?_ (Below.mono (by assumption) ?_))); all_goals (first | omega | (simp [World.setCell]; done) | (simp [World.setCell]; omega)))⟩

theorem impl_TRUE (w : World) : Calls Tryz.prog 34 #[.slice none 0 0] w fun e w' => e = .returned (.agg #[.int .i64 3, .float .f64 (bb true), .string ⟨#[]⟩, .slice none 0 0]) ∧ Below w.heap.size w w' := by
  have z0 := Zero4.new w 50
  have hbA : Below w.heap.size w (w.alloc (.cells #[.int .i64 0, .float .f64 0, .string ⟨#[]⟩, .slice none 0 0] 50)) := (Below.refl _ _).alloc (Nat.le_refl _) _
  go_enter Tryz.func34, Tryz.ntmps34
  go_wp2_with fail
  refine (in_nil _).mono ?_
  rintro e w1 ⟨rfl, rfl⟩
  go_wp2_with fail
  refine (door_TRUE _).mono ?_
  rintro e w2 ⟨rfl, hb2⟩
  have hbw2 := hbA.trans (hb2.mono hbA.size)
  have z2 := z0.below hb2
  go_wp2_with fail
  refine (out_flat 3 (bb true) ⟨#[]⟩ _).mono ?_
  rintro e w3 ⟨rfl, hb3⟩
  have hbw := hbw2.trans (hb3.mono hbw2.size)
  obtain ⟨q, q0, q1, q2, q3, qf⟩ := z2.below hb3
  clear z0 z2 hb2 hb3 hbw2 hbA
  go_wp2
  exact bodyPost_ret (v := (.agg #[.int .i64 3, .float .f64 (bb true), .string ⟨#[]⟩, .slice none 0 0])) (by simp [results, Tryz.results34, go_sem, q, q0, q1, q2, q3, qf]) rfl ⟨rfl, (by (repeat' (first | with_reducible exact Below.refl _ _ | with_reducible refine Below.setCell ?_ ?_ _ | with_reducible refine Below.alloc ?_ ?_ _ | with_reducible refine Below.drew ?_ | with_reducible refine Below.trans ?_ (Below.mono (by assumption) ?_))); all_goals (first | omega | (simp [World.setCell]; done) | (simp [World.setCell]; omega)))⟩

theorem agrees_TRUE (w : World) : Calls Tryz.prog 16 #[.func (.func 34) #[] #[], .string (⟨#[84, 82, 85, 69]⟩ : ByteArray), .slice none 0 0] w fun e w' => e = .returned (.bool true) ∧ Below w.heap.size w w' := by
  refine agrees_nil 34 (⟨#[84, 82, 85, 69]⟩ : ByteArray) (fun y => y = ⟨3, 1, 0, ⟨#[]⟩⟩) ⟨3, bb true, ⟨#[]⟩⟩ w (fun args W => by kernel_rfl) (by intro y hy; subst hy; exact .inr (.inr ⟨rfl, .inr rfl⟩)) (fun W _ => call_TRUE W) (fun W => impl_TRUE W) ?_
  intro y hy _
  subst hy
  exact ⟨rfl, rfl, by decide +kernel⟩

theorem fitsNumbers_FALSE (A : Option Addr) (L : List Ve) (c : Nat) (w : World) (hL : Args w A L) :
    Calls Tryz.prog 109 #[.string (⟨#[70, 65, 76, 83, 69]⟩ : ByteArray), .slice A L.length c] w fun e w' => e = .returned (.tuple #[.bool false, .bool false]) ∧ Below w.heap.size w w' := by
  have HE := numeric_all A L c w hL
  go_enter Tryz.func109, Tryz.ntmps109
  go_wp2_with fail
  refine HE.mono ?_
  rintro e w1 ⟨r, rfl, hb1⟩
  go_wp2
  go_ret2
  exact ⟨rfl, hb1⟩

theorem fitsTexts_FALSE (A : Option Addr) (n c : Nat) (w : World) :
    Calls Tryz.prog 110 #[.string (⟨#[70, 65, 76, 83, 69]⟩ : ByteArray), .slice A n c] w fun e w' => e = .returned (.tuple #[.bool false, .bool false]) ∧ Below w.heap.size w w' := by
  go_enter Tryz.func110, Tryz.ntmps110
  go_wp2
  go_ret2
  exact ⟨rfl, (by (repeat' (first | with_reducible exact Below.refl _ _ | with_reducible refine Below.setCell ?_ ?_ _ | with_reducible refine Below.alloc ?_ ?_ _ | with_reducible refine Below.drew ?_ | with_reducible refine Below.trans ?_ (Below.mono (by assumption) ?_))); all_goals (first | omega | (simp [World.setCell]; done) | (simp [World.setCell]; omega)))⟩

theorem fitsChoices_FALSE (A : Option Addr) (n c : Nat) (w : World) :
    Calls Tryz.prog 111 #[.string (⟨#[70, 65, 76, 83, 69]⟩ : ByteArray), .slice A n c] w fun e w' => e = .returned (.tuple #[.bool false, .bool false]) ∧ Below w.heap.size w w' := by
  go_enter Tryz.func111, Tryz.ntmps111
  go_wp2
  go_ret2
  exact ⟨rfl, (by (repeat' (first | with_reducible exact Below.refl _ _ | with_reducible refine Below.setCell ?_ ?_ _ | with_reducible refine Below.alloc ?_ ?_ _ | with_reducible refine Below.drew ?_ | with_reducible refine Below.trans ?_ (Below.mono (by assumption) ?_))); all_goals (first | omega | (simp [World.setCell]; done) | (simp [World.setCell]; omega)))⟩

theorem Stat_FALSE (A : Option Addr) (n c : Nat) (w : World) :
    Calls Tryz.prog 90 #[.string (⟨#[70, 65, 76, 83, 69]⟩ : ByteArray), .slice A n c] w fun e w' => e = .returned (.tuple #[(.agg #[.int .i64 0, .int .i64 0, .int .i64 0, .string ⟨#[]⟩, .slice none 0 0]), .bool false]) ∧ Below w.heap.size w w' := by
  go_enter Tryz.func90, Tryz.ntmps90
  go_wp2
  exact bodyPost_ret (v := (.tuple #[(.agg #[.int .i64 0, .int .i64 0, .int .i64 0, .string ⟨#[]⟩, .slice none 0 0]), .bool false])) (by simp [results, Tryz.results90, go_sem]) rfl ⟨rfl, (by (repeat' (first | with_reducible exact Below.refl _ _ | with_reducible refine Below.setCell ?_ ?_ _ | with_reducible refine Below.alloc ?_ ?_ _ | with_reducible refine Below.drew ?_ | with_reducible refine Below.trans ?_ (Below.mono (by assumption) ?_))); all_goals (first | omega | (simp [World.setCell]; done) | (simp [World.setCell]; omega)))⟩

theorem Criteria_FALSE (A : Option Addr) (n c : Nat) (w : World) :
    Calls Tryz.prog 91 #[.string (⟨#[70, 65, 76, 83, 69]⟩ : ByteArray), .slice A n c] w fun e w' => e = .returned (.tuple #[(.agg #[.int .i64 0, .int .i64 0, .int .i64 0, .string ⟨#[]⟩, .slice none 0 0]), .bool false]) ∧ Below w.heap.size w w' := by
  go_enter Tryz.func91, Tryz.ntmps91
  go_wp2
  exact bodyPost_ret (v := (.tuple #[(.agg #[.int .i64 0, .int .i64 0, .int .i64 0, .string ⟨#[]⟩, .slice none 0 0]), .bool false])) (by simp [results, Tryz.results91, go_sem]) rfl ⟨rfl, (by (repeat' (first | with_reducible exact Below.refl _ _ | with_reducible refine Below.setCell ?_ ?_ _ | with_reducible refine Below.alloc ?_ ?_ _ | with_reducible refine Below.drew ?_ | with_reducible refine Below.trans ?_ (Below.mono (by assumption) ?_))); all_goals (first | omega | (simp [World.setCell]; done) | (simp [World.setCell]; omega)))⟩

theorem Lookup_FALSE (A : Option Addr) (n c : Nat) (w : World) :
    Calls Tryz.prog 92 #[.string (⟨#[70, 65, 76, 83, 69]⟩ : ByteArray), .slice A n c] w fun e w' => e = .returned (.tuple #[(.agg #[.int .i64 0, .int .i64 0, .int .i64 0, .string ⟨#[]⟩, .slice none 0 0]), .bool false]) ∧ Below w.heap.size w w' := by
  go_enter Tryz.func92, Tryz.ntmps92
  go_wp2
  exact bodyPost_ret (v := (.tuple #[(.agg #[.int .i64 0, .int .i64 0, .int .i64 0, .string ⟨#[]⟩, .slice none 0 0]), .bool false])) (by simp [results, Tryz.results92, go_sem]) rfl ⟨rfl, (by (repeat' (first | with_reducible exact Below.refl _ _ | with_reducible refine Below.setCell ?_ ?_ _ | with_reducible refine Below.alloc ?_ ?_ _ | with_reducible refine Below.drew ?_ | with_reducible refine Below.trans ?_ (Below.mono (by assumption) ?_))); all_goals (first | omega | (simp [World.setCell]; done) | (simp [World.setCell]; omega)))⟩

theorem CallMath_FALSE (A : Option Addr) (n c : Nat) (w : World) :
    Calls Tryz.prog 93 #[.string (⟨#[70, 65, 76, 83, 69]⟩ : ByteArray), .slice A n c] w fun e w' => e = .returned (.tuple #[(.agg #[.int .i64 0, .int .i64 0, .int .i64 0, .string ⟨#[]⟩, .slice none 0 0]), .bool false]) ∧ Below w.heap.size w w' := by
  go_enter Tryz.func93, Tryz.ntmps93
  go_wp2
  exact bodyPost_ret (v := (.tuple #[(.agg #[.int .i64 0, .int .i64 0, .int .i64 0, .string ⟨#[]⟩, .slice none 0 0]), .bool false])) (by simp [results, Tryz.results93, go_sem]) rfl ⟨rfl, (by (repeat' (first | with_reducible exact Below.refl _ _ | with_reducible refine Below.setCell ?_ ?_ _ | with_reducible refine Below.alloc ?_ ?_ _ | with_reducible refine Below.drew ?_ | with_reducible refine Below.trans ?_ (Below.mono (by assumption) ?_))); all_goals (first | omega | (simp [World.setCell]; done) | (simp [World.setCell]; omega)))⟩

theorem CallText_FALSE (A : Option Addr) (n c : Nat) (w : World) :
    Calls Tryz.prog 94 #[.string (⟨#[70, 65, 76, 83, 69]⟩ : ByteArray), .slice A n c] w fun e w' => e = .returned (.tuple #[(.agg #[.int .i64 0, .int .i64 0, .int .i64 0, .string ⟨#[]⟩, .slice none 0 0]), .bool false]) ∧ Below w.heap.size w w' := by
  go_enter Tryz.func94, Tryz.ntmps94
  go_wp2
  exact bodyPost_ret (v := (.tuple #[(.agg #[.int .i64 0, .int .i64 0, .int .i64 0, .string ⟨#[]⟩, .slice none 0 0]), .bool false])) (by simp [results, Tryz.results94, go_sem]) rfl ⟨rfl, (by (repeat' (first | with_reducible exact Below.refl _ _ | with_reducible refine Below.setCell ?_ ?_ _ | with_reducible refine Below.alloc ?_ ?_ _ | with_reducible refine Below.drew ?_ | with_reducible refine Below.trans ?_ (Below.mono (by assumption) ?_))); all_goals (first | omega | (simp [World.setCell]; done) | (simp [World.setCell]; omega)))⟩


theorem others_FALSE (w : World) : Calls Tryz.prog 112 #[.string (⟨#[70, 65, 76, 83, 69]⟩ : ByteArray)] w fun e w' => e = .returned (.bool true) ∧ Below w.heap.size w w' := by
  go_enter Tryz.func112, Tryz.ntmps112
  go_wp2
  go_ret
  exact ⟨rfl, (by (repeat' (first | with_reducible exact Below.refl _ _ | with_reducible refine Below.setCell ?_ ?_ _ | with_reducible refine Below.alloc ?_ ?_ _ | with_reducible refine Below.drew ?_ | with_reducible refine Below.trans ?_ (Below.mono (by assumption) ?_))); all_goals (first | omega | (simp [World.setCell]; done) | (simp [World.setCell]; omega)))⟩

theorem here_FALSE (w0 : World) : Here 95 (⟨#[70, 65, 76, 83, 69]⟩ : ByteArray) none 0 0 (FlatP fun y => y = ⟨3, 0, 0, ⟨#[]⟩⟩) w0 := by
  intro w _
  have z0 := Zero5.new w
  go_enter Tryz.func95, Tryz.ntmps95
  go_wp2_with fail
  go_fit (bool_any false _)
  rintro e w1 ⟨rfl, hb1⟩
  obtain ⟨q, q0, q1, q2, q3, q4, qf⟩ := z0.below hb1
  clear z0
  go_wp2
  exact bodyPost_ret (v := (.tuple #[(.agg #[.int .i64 3, .int .i64 0, .int .i64 0, .string ⟨#[]⟩, .slice none 0 0]), .bool true])) (by simp [results, Tryz.results95, go_sem, q, q0, q1, q2, q3, q4, qf]) rfl ⟨⟨⟨3, 0, 0, ⟨#[]⟩⟩, none, 0, 0⟩, rfl, ⟨⟨3, 0, 0, ⟨#[]⟩⟩, rfl, rfl⟩, (by (repeat' (first | with_reducible exact Below.refl _ _ | with_reducible refine Below.setCell ?_ ?_ _ | with_reducible refine Below.alloc ?_ ?_ _ | with_reducible refine Below.drew ?_ | with_reducible refine Below.trans ?_ (Below.mono (by assumption) ?_))); all_goals (first | omega | (simp [World.setCell]; done) | (simp [World.setCell]; omega)))⟩

theorem call_FALSE (w : World) : Calls Tryz.prog 38 #[.string (⟨#[70, 65, 76, 83, 69]⟩ : ByteArray), .slice none 0 0] w fun e w' => ∃ y : Fv, y = ⟨3, 0, 0, ⟨#[]⟩⟩ ∧ e = .returned (.agg #[.int .i64 y.k, .int .i64 y.n, .int .i64 y.d, .string y.s, .slice none 0 0]) ∧ Below w.heap.size w w' :=
  (call_over (⟨#[70, 65, 76, 83, 69]⟩ : ByteArray) none 0 0 (FlatP fun y => y = ⟨3, 0, 0, ⟨#[]⟩⟩) (FlatP.lasts _) w fun W _ =>
    over_CallLogic _ _ _ _ _ (FlatP.lasts _) W
      (fun W2 _ => fits_others _ _ _ _ W2 (fun W3 _ => fitsNumbers_FALSE none [] 0 W3 ⟨by simp, by simp, .inl ⟨rfl, rfl⟩⟩) (fun W3 _ => fitsTexts_FALSE _ _ _ W3) (fun W3 _ => fitsChoices_FALSE _ _ _ W3) (fun W3 => others_FALSE W3))
      (Stat_FALSE _ _ _) (Criteria_FALSE _ _ _) (Lookup_FALSE _ _ _) (CallMath_FALSE _ _ _) (CallText_FALSE _ _ _) (here_FALSE W)).mono fun e w1 h => h.flatP

theorem ff_FALSE (p : Addr) (LB : Nat) (w : World) (h : IsList w LB [] []) :
    Calls Tryz.prog 88 #[.pointer (some p), .pointer (some ⟨LB, 0, none⟩)] w fun e w' => e = .returned (.agg #[.string ⟨#[]⟩, .float .f64 (bb false), .string ⟨#[]⟩, .slice none 0 0, .slice none 0 0, .bool true, .string ⟨#[]⟩, .int .u8 1, .pointer none, .pointer none]) ∧ Below w.heap.size w w' := by
  have hlt := h.lt
  have r4 : w.cell? ⟨LB, 4, none⟩ = some (.int .i64 0) := by rw [h.root.cell]; rfl
  have r4' : ∀ o, (w.alloc o).cell? ⟨LB, 4, none⟩ = some (.int .i64 0) := fun o => (World.cell?_alloc_lt _ _ _ hlt).trans r4
  go_enter Tryz.func88, Tryz.ntmps88
  go_wp2_with (first | (go_at_call 98; refine (len_any _ _ _ (r4' _)).mono ?_; rintro e v1 ⟨rfl, rfl⟩) | (go_at_call 101; refine (newBool_any false _).mono ?_; rintro e w1 ⟨rfl, hb1⟩; obtain ⟨hc1, hf1, hz1⟩ := bcell hb1; try simp only [World.size_alloc, size_setCell] at hz1; have hwlt1 : w.heap.size < w1.heap.size := (by omega)))
  exact bodyPost_ret (v := (.agg #[.string ⟨#[]⟩, .float .f64 (bb false), .string ⟨#[]⟩, .slice none 0 0, .slice none 0 0, .bool true, .string ⟨#[]⟩, .int .u8 1, .pointer none, .pointer none])) (by simp [results, Tryz.results88, go_sem, hc1, hf1, hwlt1]) rfl ⟨rfl, (by (repeat' (first | with_reducible exact Below.refl _ _ | with_reducible refine Below.setCell ?_ ?_ _ | with_reducible refine Below.alloc ?_ ?_ _ | with_reducible refine Below.drew ?_ | with_reducible refine Below.trans ?_ (Below.mono (by assumption) ?_))); all_goals (first | omega | (simp [World.setCell]; done) | (simp [World.setCell]; omega)))⟩

theorem door_FALSE (w : World) : Calls Tryz.prog 67 #[.slice none 0 0] w fun e w' => e = .returned (.agg #[.int .i64 3, .float .f64 (bb false), .string ⟨#[]⟩, .slice none 0 0]) ∧ Below w.heap.size w w' := by
  have z0 := Zero4.new w 56
  have hbA : Below w.heap.size w (w.alloc (.cells #[.int .i64 0, .float .f64 0, .string ⟨#[]⟩, .slice none 0 0] 56)) := (Below.refl _ _).alloc (Nat.le_refl _) _
  go_enter Tryz.func67, Tryz.ntmps67
  go_wp2_with fail
  refine (doorFuncs_any _).mono ?_
  rintro e w1 ⟨rfl, hb1⟩
  have hbw1 := hbA.trans (hb1.mono (by simp))
  have z1 := z0.below hb1
  go_wp2_with fail
  refine (innerList_nil _).mono ?_
  rintro e w2 ⟨rfl, ⟨es, hl⟩, hb2⟩
  have hes : es = [] := by have := hl.len; simpa using this
  subst hes
  have hbw2 := hbw1.trans (hb2.mono hbw1.size)
  have z2 := z1.below hb2
  go_wp2_with fail
  refine (ff_FALSE _ _ _ hl).mono ?_
  rintro e w3 ⟨rfl, hb3⟩
  have hbw3 := hbw2.trans (hb3.mono hbw2.size)
  have z3 := z2.below hb3
  go_wp2_with fail
  refine (doorArg_bool (bb false) _).mono ?_
  rintro e w4 ⟨rfl, hb4⟩
  have hbw := hbw3.trans (hb4.mono hbw3.size)
  obtain ⟨q, q0, q1, q2, q3, qf⟩ := z3.below hb4
  clear z0 z1 z2 z3 hb1 hb2 hb3 hb4 hbw1 hbw2 hbw3 hbA hl
  go_wp2
  exact bodyPost_ret (v := (.agg #[.int .i64 3, .float .f64 (bb false), .string ⟨#[]⟩, .slice none 0 0])) (by simp [results, Tryz.results67, go_sem, q, q0, q1, q2, q3, qf]) rfl ⟨rfl, (by (repeat' (first | with_reducible exact Below.refl _ _ | with_reducible refine Below.setCell ?_ ?_ _ | with_reducible refine Below.alloc ?_ ?_ _ | with_reducible refine Below.drew ?_ | with_reducible refine Below.trans ?_ (Below.mono (by assumption) ?_))); all_goals (first | omega | (simp [World.setCell]; done) | (simp [World.setCell]; omega)))⟩

theorem impl_FALSE (w : World) : Calls Tryz.prog 35 #[.slice none 0 0] w fun e w' => e = .returned (.agg #[.int .i64 3, .float .f64 (bb false), .string ⟨#[]⟩, .slice none 0 0]) ∧ Below w.heap.size w w' := by
  have z0 := Zero4.new w 50
  have hbA : Below w.heap.size w (w.alloc (.cells #[.int .i64 0, .float .f64 0, .string ⟨#[]⟩, .slice none 0 0] 50)) := (Below.refl _ _).alloc (Nat.le_refl _) _
  go_enter Tryz.func35, Tryz.ntmps35
  go_wp2_with fail
  refine (in_nil _).mono ?_
  rintro e w1 ⟨rfl, rfl⟩
  go_wp2_with fail
  refine (door_FALSE _).mono ?_
  rintro e w2 ⟨rfl, hb2⟩
  have hbw2 := hbA.trans (hb2.mono hbA.size)
  have z2 := z0.below hb2
  go_wp2_with fail
  refine (out_flat 3 (bb false) ⟨#[]⟩ _).mono ?_
  rintro e w3 ⟨rfl, hb3⟩
  have hbw := hbw2.trans (hb3.mono hbw2.size)
  obtain ⟨q, q0, q1, q2, q3, qf⟩ := z2.below hb3
  clear z0 z2 hb2 hb3 hbw2 hbA
  go_wp2
  exact bodyPost_ret (v := (.agg #[.int .i64 3, .float .f64 (bb false), .string ⟨#[]⟩, .slice none 0 0])) (by simp [results, Tryz.results35, go_sem, q, q0, q1, q2, q3, qf]) rfl ⟨rfl, (by (repeat' (first | with_reducible exact Below.refl _ _ | with_reducible refine Below.setCell ?_ ?_ _ | with_reducible refine Below.alloc ?_ ?_ _ | with_reducible refine Below.drew ?_ | with_reducible refine Below.trans ?_ (Below.mono (by assumption) ?_))); all_goals (first | omega | (simp [World.setCell]; done) | (simp [World.setCell]; omega)))⟩

theorem agrees_FALSE (w : World) : Calls Tryz.prog 16 #[.func (.func 35) #[] #[], .string (⟨#[70, 65, 76, 83, 69]⟩ : ByteArray), .slice none 0 0] w fun e w' => e = .returned (.bool true) ∧ Below w.heap.size w w' := by
  refine agrees_nil 35 (⟨#[70, 65, 76, 83, 69]⟩ : ByteArray) (fun y => y = ⟨3, 0, 0, ⟨#[]⟩⟩) ⟨3, bb false, ⟨#[]⟩⟩ w (fun args W => by kernel_rfl) (by intro y hy; subst hy; exact .inr (.inr ⟨rfl, .inl rfl⟩)) (fun W _ => call_FALSE W) (fun W => impl_FALSE W) ?_
  intro y hy _
  subst hy
  exact ⟨rfl, rfl, by decide +kernel⟩

theorem fitsNumbers_NA (A : Option Addr) (L : List Ve) (c : Nat) (w : World) (hL : Args w A L) :
    Calls Tryz.prog 109 #[.string (⟨#[78, 65]⟩ : ByteArray), .slice A L.length c] w fun e w' => e = .returned (.tuple #[.bool false, .bool false]) ∧ Below w.heap.size w w' := by
  have HE := numeric_all A L c w hL
  go_enter Tryz.func109, Tryz.ntmps109
  go_wp2_with fail
  refine HE.mono ?_
  rintro e w1 ⟨r, rfl, hb1⟩
  go_wp2
  go_ret2
  exact ⟨rfl, hb1⟩

theorem fitsTexts_NA (A : Option Addr) (n c : Nat) (w : World) :
    Calls Tryz.prog 110 #[.string (⟨#[78, 65]⟩ : ByteArray), .slice A n c] w fun e w' => e = .returned (.tuple #[.bool false, .bool false]) ∧ Below w.heap.size w w' := by
  go_enter Tryz.func110, Tryz.ntmps110
  go_wp2
  go_ret2
  exact ⟨rfl, (by (repeat' (first | with_reducible exact Below.refl _ _ | with_reducible refine Below.setCell ?_ ?_ _ | with_reducible refine Below.alloc ?_ ?_ _ | with_reducible refine Below.drew ?_ | with_reducible refine Below.trans ?_ (Below.mono (by assumption) ?_))); all_goals (first | omega | (simp [World.setCell]; done) | (simp [World.setCell]; omega)))⟩

theorem fitsChoices_NA (A : Option Addr) (n c : Nat) (w : World) :
    Calls Tryz.prog 111 #[.string (⟨#[78, 65]⟩ : ByteArray), .slice A n c] w fun e w' => e = .returned (.tuple #[.bool false, .bool false]) ∧ Below w.heap.size w w' := by
  go_enter Tryz.func111, Tryz.ntmps111
  go_wp2
  go_ret2
  exact ⟨rfl, (by (repeat' (first | with_reducible exact Below.refl _ _ | with_reducible refine Below.setCell ?_ ?_ _ | with_reducible refine Below.alloc ?_ ?_ _ | with_reducible refine Below.drew ?_ | with_reducible refine Below.trans ?_ (Below.mono (by assumption) ?_))); all_goals (first | omega | (simp [World.setCell]; done) | (simp [World.setCell]; omega)))⟩

theorem Stat_NA (A : Option Addr) (n c : Nat) (w : World) :
    Calls Tryz.prog 90 #[.string (⟨#[78, 65]⟩ : ByteArray), .slice A n c] w fun e w' => e = .returned (.tuple #[(.agg #[.int .i64 0, .int .i64 0, .int .i64 0, .string ⟨#[]⟩, .slice none 0 0]), .bool false]) ∧ Below w.heap.size w w' := by
  go_enter Tryz.func90, Tryz.ntmps90
  go_wp2
  exact bodyPost_ret (v := (.tuple #[(.agg #[.int .i64 0, .int .i64 0, .int .i64 0, .string ⟨#[]⟩, .slice none 0 0]), .bool false])) (by simp [results, Tryz.results90, go_sem]) rfl ⟨rfl, (by (repeat' (first | with_reducible exact Below.refl _ _ | with_reducible refine Below.setCell ?_ ?_ _ | with_reducible refine Below.alloc ?_ ?_ _ | with_reducible refine Below.drew ?_ | with_reducible refine Below.trans ?_ (Below.mono (by assumption) ?_))); all_goals (first | omega | (simp [World.setCell]; done) | (simp [World.setCell]; omega)))⟩

theorem Criteria_NA (A : Option Addr) (n c : Nat) (w : World) :
    Calls Tryz.prog 91 #[.string (⟨#[78, 65]⟩ : ByteArray), .slice A n c] w fun e w' => e = .returned (.tuple #[(.agg #[.int .i64 0, .int .i64 0, .int .i64 0, .string ⟨#[]⟩, .slice none 0 0]), .bool false]) ∧ Below w.heap.size w w' := by
  go_enter Tryz.func91, Tryz.ntmps91
  go_wp2
  exact bodyPost_ret (v := (.tuple #[(.agg #[.int .i64 0, .int .i64 0, .int .i64 0, .string ⟨#[]⟩, .slice none 0 0]), .bool false])) (by simp [results, Tryz.results91, go_sem]) rfl ⟨rfl, (by (repeat' (first | with_reducible exact Below.refl _ _ | with_reducible refine Below.setCell ?_ ?_ _ | with_reducible refine Below.alloc ?_ ?_ _ | with_reducible refine Below.drew ?_ | with_reducible refine Below.trans ?_ (Below.mono (by assumption) ?_))); all_goals (first | omega | (simp [World.setCell]; done) | (simp [World.setCell]; omega)))⟩

theorem Lookup_NA (A : Option Addr) (n c : Nat) (w : World) :
    Calls Tryz.prog 92 #[.string (⟨#[78, 65]⟩ : ByteArray), .slice A n c] w fun e w' => e = .returned (.tuple #[(.agg #[.int .i64 0, .int .i64 0, .int .i64 0, .string ⟨#[]⟩, .slice none 0 0]), .bool false]) ∧ Below w.heap.size w w' := by
  go_enter Tryz.func92, Tryz.ntmps92
  go_wp2
  exact bodyPost_ret (v := (.tuple #[(.agg #[.int .i64 0, .int .i64 0, .int .i64 0, .string ⟨#[]⟩, .slice none 0 0]), .bool false])) (by simp [results, Tryz.results92, go_sem]) rfl ⟨rfl, (by (repeat' (first | with_reducible exact Below.refl _ _ | with_reducible refine Below.setCell ?_ ?_ _ | with_reducible refine Below.alloc ?_ ?_ _ | with_reducible refine Below.drew ?_ | with_reducible refine Below.trans ?_ (Below.mono (by assumption) ?_))); all_goals (first | omega | (simp [World.setCell]; done) | (simp [World.setCell]; omega)))⟩

theorem CallMath_NA (A : Option Addr) (n c : Nat) (w : World) :
    Calls Tryz.prog 93 #[.string (⟨#[78, 65]⟩ : ByteArray), .slice A n c] w fun e w' => e = .returned (.tuple #[(.agg #[.int .i64 0, .int .i64 0, .int .i64 0, .string ⟨#[]⟩, .slice none 0 0]), .bool false]) ∧ Below w.heap.size w w' := by
  go_enter Tryz.func93, Tryz.ntmps93
  go_wp2
  exact bodyPost_ret (v := (.tuple #[(.agg #[.int .i64 0, .int .i64 0, .int .i64 0, .string ⟨#[]⟩, .slice none 0 0]), .bool false])) (by simp [results, Tryz.results93, go_sem]) rfl ⟨rfl, (by (repeat' (first | with_reducible exact Below.refl _ _ | with_reducible refine Below.setCell ?_ ?_ _ | with_reducible refine Below.alloc ?_ ?_ _ | with_reducible refine Below.drew ?_ | with_reducible refine Below.trans ?_ (Below.mono (by assumption) ?_))); all_goals (first | omega | (simp [World.setCell]; done) | (simp [World.setCell]; omega)))⟩

theorem CallText_NA (A : Option Addr) (n c : Nat) (w : World) :
    Calls Tryz.prog 94 #[.string (⟨#[78, 65]⟩ : ByteArray), .slice A n c] w fun e w' => e = .returned (.tuple #[(.agg #[.int .i64 0, .int .i64 0, .int .i64 0, .string ⟨#[]⟩, .slice none 0 0]), .bool false]) ∧ Below w.heap.size w w' := by
  go_enter Tryz.func94, Tryz.ntmps94
  go_wp2
  exact bodyPost_ret (v := (.tuple #[(.agg #[.int .i64 0, .int .i64 0, .int .i64 0, .string ⟨#[]⟩, .slice none 0 0]), .bool false])) (by simp [results, Tryz.results94, go_sem]) rfl ⟨rfl, (by (repeat' (first | with_reducible exact Below.refl _ _ | with_reducible refine Below.setCell ?_ ?_ _ | with_reducible refine Below.alloc ?_ ?_ _ | with_reducible refine Below.drew ?_ | with_reducible refine Below.trans ?_ (Below.mono (by assumption) ?_))); all_goals (first | omega | (simp [World.setCell]; done) | (simp [World.setCell]; omega)))⟩

theorem CallLogic_NA (A : Option Addr) (n c : Nat) (w : World) :
    Calls Tryz.prog 95 #[.string (⟨#[78, 65]⟩ : ByteArray), .slice A n c] w fun e w' => e = .returned (.tuple #[(.agg #[.int .i64 0, .int .i64 0, .int .i64 0, .string ⟨#[]⟩, .slice none 0 0]), .bool false]) ∧ Below w.heap.size w w' := by
  go_enter Tryz.func95, Tryz.ntmps95
  go_wp2
  exact bodyPost_ret (v := (.tuple #[(.agg #[.int .i64 0, .int .i64 0, .int .i64 0, .string ⟨#[]⟩, .slice none 0 0]), .bool false])) (by simp [results, Tryz.results95, go_sem]) rfl ⟨rfl, (by (repeat' (first | with_reducible exact Below.refl _ _ | with_reducible refine Below.setCell ?_ ?_ _ | with_reducible refine Below.alloc ?_ ?_ _ | with_reducible refine Below.drew ?_ | with_reducible refine Below.trans ?_ (Below.mono (by assumption) ?_))); all_goals (first | omega | (simp [World.setCell]; done) | (simp [World.setCell]; omega)))⟩


theorem others_NA (w : World) : Calls Tryz.prog 112 #[.string (⟨#[78, 65]⟩ : ByteArray)] w fun e w' => e = .returned (.bool true) ∧ Below w.heap.size w w' := by
  go_enter Tryz.func112, Tryz.ntmps112
  go_wp2
  go_ret
  exact ⟨rfl, (by (repeat' (first | with_reducible exact Below.refl _ _ | with_reducible refine Below.setCell ?_ ?_ _ | with_reducible refine Below.alloc ?_ ?_ _ | with_reducible refine Below.drew ?_ | with_reducible refine Below.trans ?_ (Below.mono (by assumption) ?_))); all_goals (first | omega | (simp [World.setCell]; done) | (simp [World.setCell]; omega)))⟩

theorem here_NA (w0 : World) : Here 96 (⟨#[78, 65]⟩ : ByteArray) none 0 0 (FlatP fun y => y = ⟨4, 0, 0, (⟨#[35, 78, 47, 65]⟩ : ByteArray)⟩) w0 := by
  intro w _
  have z0 := Zero5.new w
  go_enter Tryz.func96, Tryz.ntmps96
  go_wp2_with fail
  go_fit (err_any (⟨#[35, 78, 47, 65]⟩ : ByteArray) _)
  rintro e w1 ⟨rfl, hb1⟩
  obtain ⟨q, q0, q1, q2, q3, q4, qf⟩ := z0.below hb1
  clear z0
  go_wp2
  exact bodyPost_ret (v := (.tuple #[(.agg #[.int .i64 4, .int .i64 0, .int .i64 0, .string (⟨#[35, 78, 47, 65]⟩ : ByteArray), .slice none 0 0]), .bool true])) (by simp [results, Tryz.results96, go_sem, q, q0, q1, q2, q3, q4, qf]) rfl ⟨⟨⟨4, 0, 0, (⟨#[35, 78, 47, 65]⟩ : ByteArray)⟩, none, 0, 0⟩, rfl, ⟨⟨4, 0, 0, (⟨#[35, 78, 47, 65]⟩ : ByteArray)⟩, rfl, rfl⟩, (by (repeat' (first | with_reducible exact Below.refl _ _ | with_reducible refine Below.setCell ?_ ?_ _ | with_reducible refine Below.alloc ?_ ?_ _ | with_reducible refine Below.drew ?_ | with_reducible refine Below.trans ?_ (Below.mono (by assumption) ?_))); all_goals (first | omega | (simp [World.setCell]; done) | (simp [World.setCell]; omega)))⟩

theorem call_NA (w : World) : Calls Tryz.prog 38 #[.string (⟨#[78, 65]⟩ : ByteArray), .slice none 0 0] w fun e w' => ∃ y : Fv, y = ⟨4, 0, 0, (⟨#[35, 78, 47, 65]⟩ : ByteArray)⟩ ∧ e = .returned (.agg #[.int .i64 y.k, .int .i64 y.n, .int .i64 y.d, .string y.s, .slice none 0 0]) ∧ Below w.heap.size w w' :=
  (call_over (⟨#[78, 65]⟩ : ByteArray) none 0 0 (FlatP fun y => y = ⟨4, 0, 0, (⟨#[35, 78, 47, 65]⟩ : ByteArray)⟩) (FlatP.lasts _) w fun W _ =>
    over_CallInfo _ _ _ _ _ (FlatP.lasts _) W
      (fun W2 _ => fits_others _ _ _ _ W2 (fun W3 _ => fitsNumbers_NA none [] 0 W3 ⟨by simp, by simp, .inl ⟨rfl, rfl⟩⟩) (fun W3 _ => fitsTexts_NA _ _ _ W3) (fun W3 _ => fitsChoices_NA _ _ _ W3) (fun W3 => others_NA W3))
      (Stat_NA _ _ _) (Criteria_NA _ _ _) (Lookup_NA _ _ _) (CallMath_NA _ _ _) (CallText_NA _ _ _) (CallLogic_NA _ _ _) (here_NA W)).mono fun e w1 h => h.flatP

theorem ff_NA (p : Addr) (LB : Nat) (w : World) (h : IsList w LB [] []) :
    Calls Tryz.prog 86 #[.pointer (some p), .pointer (some ⟨LB, 0, none⟩)] w fun e w' => e = .returned (.agg #[.string ⟨#[]⟩, .float .f64 0, .string (⟨#[35, 78, 47, 65]⟩ : ByteArray), .slice none 0 0, .slice none 0 0, .bool false, .string (⟨#[35, 78, 47, 65]⟩ : ByteArray), .int .u8 5, .pointer none, .pointer none]) ∧ Below w.heap.size w w' := by
  have hlt := h.lt
  have r4 : w.cell? ⟨LB, 4, none⟩ = some (.int .i64 0) := by rw [h.root.cell]; rfl
  have r4' : ∀ o, (w.alloc o).cell? ⟨LB, 4, none⟩ = some (.int .i64 0) := fun o => (World.cell?_alloc_lt _ _ _ hlt).trans r4
  go_enter Tryz.func86, Tryz.ntmps86
  go_wp2_with (first | (go_at_call 98; refine (len_any _ _ _ (r4' _)).mono ?_; rintro e v1 ⟨rfl, rfl⟩) | (go_at_call 99; refine (newError_any (⟨#[35, 78, 47, 65]⟩ : ByteArray) (⟨#[35, 78, 47, 65]⟩ : ByteArray) _).mono ?_; rintro e w1 ⟨rfl, hb1⟩; obtain ⟨hc1, hf1, hz1⟩ := bcell hb1; try simp only [World.size_alloc, size_setCell] at hz1; have hwlt1 : w.heap.size < w1.heap.size := (by omega)))
  exact bodyPost_ret (v := (.agg #[.string ⟨#[]⟩, .float .f64 0, .string (⟨#[35, 78, 47, 65]⟩ : ByteArray), .slice none 0 0, .slice none 0 0, .bool false, .string (⟨#[35, 78, 47, 65]⟩ : ByteArray), .int .u8 5, .pointer none, .pointer none])) (by simp [results, Tryz.results86, go_sem, hc1, hf1, hwlt1]) rfl ⟨rfl, (by (repeat' (first | with_reducible exact Below.refl _ _ | with_reducible refine Below.setCell ?_ ?_ _ | with_reducible refine Below.alloc ?_ ?_ _ | with_reducible refine Below.drew ?_ | with_reducible refine Below.trans ?_ (Below.mono (by assumption) ?_))); all_goals (first | omega | (simp [World.setCell]; done) | (simp [World.setCell]; omega)))⟩

theorem door_NA (w : World) : Calls Tryz.prog 65 #[.slice none 0 0] w fun e w' => e = .returned (.agg #[.int .i64 4, .float .f64 0, .string (⟨#[35, 78, 47, 65]⟩ : ByteArray), .slice none 0 0]) ∧ Below w.heap.size w w' := by
  have z0 := Zero4.new w 56
  have hbA : Below w.heap.size w (w.alloc (.cells #[.int .i64 0, .float .f64 0, .string ⟨#[]⟩, .slice none 0 0] 56)) := (Below.refl _ _).alloc (Nat.le_refl _) _
  go_enter Tryz.func65, Tryz.ntmps65
  go_wp2_with fail
  refine (doorFuncs_any _).mono ?_
  rintro e w1 ⟨rfl, hb1⟩
  have hbw1 := hbA.trans (hb1.mono (by simp))
  have z1 := z0.below hb1
  go_wp2_with fail
  refine (innerList_nil _).mono ?_
  rintro e w2 ⟨rfl, ⟨es, hl⟩, hb2⟩
  have hes : es = [] := by have := hl.len; simpa using this
  subst hes
  have hbw2 := hbw1.trans (hb2.mono hbw1.size)
  have z2 := z1.below hb2
  go_wp2_with fail
  refine (ff_NA _ _ _ hl).mono ?_
  rintro e w3 ⟨rfl, hb3⟩
  have hbw3 := hbw2.trans (hb3.mono hbw2.size)
  have z3 := z2.below hb3
  go_wp2_with fail
  refine (doorArg_err (⟨#[35, 78, 47, 65]⟩ : ByteArray) (⟨#[35, 78, 47, 65]⟩ : ByteArray) _).mono ?_
  rintro e w4 ⟨rfl, hb4⟩
  have hbw := hbw3.trans (hb4.mono hbw3.size)
  obtain ⟨q, q0, q1, q2, q3, qf⟩ := z3.below hb4
  clear z0 z1 z2 z3 hb1 hb2 hb3 hb4 hbw1 hbw2 hbw3 hbA hl
  go_wp2
  exact bodyPost_ret (v := (.agg #[.int .i64 4, .float .f64 0, .string (⟨#[35, 78, 47, 65]⟩ : ByteArray), .slice none 0 0])) (by simp [results, Tryz.results65, go_sem, q, q0, q1, q2, q3, qf]) rfl ⟨rfl, (by (repeat' (first | with_reducible exact Below.refl _ _ | with_reducible refine Below.setCell ?_ ?_ _ | with_reducible refine Below.alloc ?_ ?_ _ | with_reducible refine Below.drew ?_ | with_reducible refine Below.trans ?_ (Below.mono (by assumption) ?_))); all_goals (first | omega | (simp [World.setCell]; done) | (simp [World.setCell]; omega)))⟩

theorem impl_NA (w : World) : Calls Tryz.prog 33 #[.slice none 0 0] w fun e w' => e = .returned (.agg #[.int .i64 4, .float .f64 0, .string (⟨#[35, 78, 47, 65]⟩ : ByteArray), .slice none 0 0]) ∧ Below w.heap.size w w' := by
  have z0 := Zero4.new w 50
  have hbA : Below w.heap.size w (w.alloc (.cells #[.int .i64 0, .float .f64 0, .string ⟨#[]⟩, .slice none 0 0] 50)) := (Below.refl _ _).alloc (Nat.le_refl _) _
  go_enter Tryz.func33, Tryz.ntmps33
  go_wp2_with fail
  refine (in_nil _).mono ?_
  rintro e w1 ⟨rfl, rfl⟩
  go_wp2_with fail
  refine (door_NA _).mono ?_
  rintro e w2 ⟨rfl, hb2⟩
  have hbw2 := hbA.trans (hb2.mono hbA.size)
  have z2 := z0.below hb2
  go_wp2_with fail
  refine (out_flat 4 0 (⟨#[35, 78, 47, 65]⟩ : ByteArray) _).mono ?_
  rintro e w3 ⟨rfl, hb3⟩
  have hbw := hbw2.trans (hb3.mono hbw2.size)
  obtain ⟨q, q0, q1, q2, q3, qf⟩ := z2.below hb3
  clear z0 z2 hb2 hb3 hbw2 hbA
  go_wp2
  exact bodyPost_ret (v := (.agg #[.int .i64 4, .float .f64 0, .string (⟨#[35, 78, 47, 65]⟩ : ByteArray), .slice none 0 0])) (by simp [results, Tryz.results33, go_sem, q, q0, q1, q2, q3, qf]) rfl ⟨rfl, (by (repeat' (first | with_reducible exact Below.refl _ _ | with_reducible refine Below.setCell ?_ ?_ _ | with_reducible refine Below.alloc ?_ ?_ _ | with_reducible refine Below.drew ?_ | with_reducible refine Below.trans ?_ (Below.mono (by assumption) ?_))); all_goals (first | omega | (simp [World.setCell]; done) | (simp [World.setCell]; omega)))⟩

theorem agrees_NA (w : World) : Calls Tryz.prog 16 #[.func (.func 33) #[] #[], .string (⟨#[78, 65]⟩ : ByteArray), .slice none 0 0] w fun e w' => e = .returned (.bool true) ∧ Below w.heap.size w w' := by
  refine agrees_nil 33 (⟨#[78, 65]⟩ : ByteArray) (fun y => y = ⟨4, 0, 0, (⟨#[35, 78, 47, 65]⟩ : ByteArray)⟩) ⟨4, 0, (⟨#[35, 78, 47, 65]⟩ : ByteArray)⟩ w (fun args W => by kernel_rfl) (by intro y hy; subst hy; exact .inl (.inr (.inr (.inl rfl)))) (fun W _ => call_NA W) (fun W => impl_NA W) ?_
  intro y hy _
  subst hy
  exact ⟨rfl, rfl, by decide +kernel⟩


theorem said_NA (w : World) : Calls Tryz.prog 32 #[.func (.func 33) #[] #[], .slice none 0 0] w fun e w' => e = .returned (.agg #[.int .i64 4, .int .i64 0, .int .i64 0, .string (⟨#[35, 78, 47, 65]⟩ : ByteArray), .slice none 0 0]) ∧ Below w.heap.size w w' := by
  have hcf : ∀ (args : Array Value) (W : World), Sem.run Tryz.prog (callFunc 33 args) W = .ok (.enter 33 args) W := fun args W => by kernel_rfl
  have z0 := Zero5.new w
  have hbA : Below w.heap.size w (w.alloc (.cells #[.int .i64 0, .int .i64 0, .int .i64 0, .string ⟨#[]⟩, .slice none 0 0] 27)) := (Below.refl _ _).alloc (Nat.le_refl _) _
  go_enter Tryz.func32, Tryz.ntmps32
  go_wp2_with fail
  refine (all_nil _).mono ?_
  rintro e w1 ⟨rfl, rfl⟩
  go_wp2_with fail
  refine (impl_NA _).mono ?_
  rintro e w2 ⟨rfl, hb2⟩
  have hbw2 := hbA.trans (hb2.mono hbA.size)
  have z2 := z0.below hb2
  go_wp2_with fail
  refine (err_any (⟨#[35, 78, 47, 65]⟩ : ByteArray) _).mono ?_
  rintro e w3 ⟨rfl, hb3⟩
  have hbw3 := (hbw2.alloc hbw2.size (.cells #[.int .i64 4, .float .f64 0, .string (⟨#[35, 78, 47, 65]⟩ : ByteArray), .slice none 0 0] 50)).trans (hb3.mono (by simp; have := hbw2.size; omega))
  obtain ⟨q, q0, q1, q2, q3, q4, qf⟩ := (z2.below ((Below.refl _ _).alloc (Nat.le_refl _) (.cells #[.int .i64 4, .float .f64 0, .string (⟨#[35, 78, 47, 65]⟩ : ByteArray), .slice none 0 0] 50))).below hb3
  clear z0 z2 hb2 hb3 hbw2 hbA
  go_wp2
  exact bodyPost_ret (v := (.agg #[.int .i64 4, .int .i64 0, .int .i64 0, .string (⟨#[35, 78, 47, 65]⟩ : ByteArray), .slice none 0 0])) (by simp [results, Tryz.results32, go_sem, q, q0, q1, q2, q3, q4, qf]) rfl ⟨rfl, (by (repeat' (first | with_reducible exact Below.refl _ _ | with_reducible refine Below.setCell ?_ ?_ _ | with_reducible refine Below.alloc ?_ ?_ _ | with_reducible refine Below.drew ?_ | with_reducible refine Below.trans ?_ (Below.mono (by assumption) ?_))); all_goals (first | omega | (simp [World.setCell]; done) | (simp [World.setCell]; omega)))⟩

theorem bb_true : (FloatKind.f64.format.order (bb true) 0 != some .eq) = true := by decide +kernel

theorem said_ISNA (b : Nat) (w : World) (hrow : Row w b 0 5 [(⟨4, 0, 0, (⟨#[35, 78, 47, 65]⟩ : ByteArray)⟩ : Fv).cells]) (hb : b < w.heap.size) :
    Calls Tryz.prog 32 #[.func (.func 17) #[] #[], .slice (some ⟨b, 0, none⟩) 1 1] w fun e w' => e = .returned (.agg #[.int .i64 3, .int .i64 1, .int .i64 0, .string ⟨#[]⟩, .slice none 0 0]) ∧ Below w.heap.size w w' := by
  have hcf : ∀ (args : Array Value) (W : World), Sem.run Tryz.prog (callFunc 17 args) W = .ok (.enter 17 args) W := fun args W => by kernel_rfl
  have hbt := bb_true
  have z0 := Zero5.new w
  have hbA : Below w.heap.size w (w.alloc (.cells #[.int .i64 0, .int .i64 0, .int .i64 0, .string ⟨#[]⟩, .slice none 0 0] 27)) := (Below.refl _ _).alloc (Nat.le_refl _) _
  go_enter Tryz.func32, Tryz.ntmps32
  go_wp2_with fail
  refine (all_flat b 0 1 [⟨4, 0, 0, (⟨#[35, 78, 47, 65]⟩ : ByteArray)⟩] _ (by intro x hx; simp at hx; subst hx; exact .inl (.inr (.inr (.inl rfl)))) (hrow.below hbA hb) (Nat.lt_of_lt_of_le hb hbA.size) (by simp)).mono ?_
  rintro e w1 ⟨v, rfl, hown, hb1⟩
  have hbw1 := hbA.trans (hb1.mono hbA.size)
  have z1 := z0.below hb1
  obtain ⟨A5, cap5, rfl, hs5⟩ := hown.src
  go_wp2_with fail
  refine (impl_ISNA A5 cap5 ⟨4, 0, (⟨#[35, 78, 47, 65]⟩ : ByteArray)⟩ (.agg #[.string ⟨#[]⟩, .float .f64 (bb true), .string ⟨#[]⟩, .slice none 0 0, .slice none 0 0, .bool true, .string ⟨#[]⟩, .int .u8 1, .pointer none, .pointer none]) ⟨3, bb true, ⟨#[]⟩⟩ _ (.inr (.inr (.inr (.inr rfl)))) (by exact hs5) ?_ (fun W => doorArg_bool _ W)).mono ?_
  · intro W p LB E h
    exact ff_ISNA_4 p LB E _ (by decide +kernel) W h
  rintro e w2 ⟨rfl, hb2⟩
  have hbw2 := hbw1.trans (hb2.mono hbw1.size)
  have z2 := z1.below hb2
  go_wp2_with fail
  go_fit (bool_any true _)
  rintro e w3 ⟨rfl, hb3⟩
  have hbw3 := (hbw2.alloc hbw2.size (.cells #[.int .i64 3, .float .f64 (bb true), .string ⟨#[]⟩, .slice none 0 0] 50)).trans (hb3.mono (by simp; have := hbw2.size; omega))
  obtain ⟨q, q0, q1, q2, q3, q4, qf⟩ := (z2.below ((Below.refl _ _).alloc (Nat.le_refl _) (.cells #[.int .i64 3, .float .f64 (bb true), .string ⟨#[]⟩, .slice none 0 0] 50))).below hb3
  clear z0 z1 z2 hb1 hb2 hb3 hbw1 hbw2 hbA hown hs5 hrow
  go_wp2
  exact bodyPost_ret (v := (.agg #[.int .i64 3, .int .i64 1, .int .i64 0, .string ⟨#[]⟩, .slice none 0 0])) (by simp [results, Tryz.results32, go_sem, q, q0, q1, q2, q3, q4, qf]) rfl ⟨rfl, (by (repeat' (first | with_reducible exact Below.refl _ _ | with_reducible refine Below.setCell ?_ ?_ _ | with_reducible refine Below.alloc ?_ ?_ _ | with_reducible refine Below.drew ?_ | with_reducible refine Below.trans ?_ (Below.mono (by assumption) ?_))); all_goals (first | omega | (simp [World.setCell]; done) | (simp [World.setCell]; omega)))⟩

theorem law_None (w : World) : Calls Tryz.prog 14 #[] w fun e w' => e = .returned (.bool true) ∧ Below w.heap.size w w' := by
  go_enter Tryz.func14, Tryz.ntmps14
  go_wp2_with fail
  refine (said_NA _).mono ?_
  rintro e w1 ⟨rfl, hb1⟩
  obtain ⟨W1, hW1⟩ : ∃ W1, W1 = w1.heap.size := ⟨_, rfl⟩
  have hbB := hb1.alloc hb1.size (.cells #[.int .i64 4, .int .i64 0, .int .i64 0, .string (⟨#[35, 78, 47, 65]⟩ : ByteArray), .slice none 0 0] 27)
  have o1 : One (w1.alloc (.cells #[.int .i64 4, .int .i64 0, .int .i64 0, .string (⟨#[35, 78, 47, 65]⟩ : ByteArray), .slice none 0 0] 27)) w1.heap.size 0 ⟨4, 0, 0, (⟨#[35, 78, 47, 65]⟩ : ByteArray)⟩ := One.of_row (row_one w1 27 #[.int .i64 4, .int .i64 0, .int .i64 0, .string (⟨#[35, 78, 47, 65]⟩ : ByteArray), .slice none 0 0]) (by simp)
  go_wp2_with fail
  refine (agrees_TRUE _).mono ?_
  rintro e w2 ⟨rfl, hb2⟩
  have hbw2 := hbB.trans (hb2.mono hbB.size)
  have o2 := o1.below hb2
  go_wp2_with fail
  refine (agrees_FALSE _).mono ?_
  rintro e w3 ⟨rfl, hb3⟩
  have hbw3 := hbw2.trans (hb3.mono hbw2.size)
  have o3 := o2.below hb3
  go_wp2_with fail
  refine (agrees_NA _).mono ?_
  rintro e w4 ⟨rfl, hb4⟩
  have hbw4 := hbw3.trans (hb4.mono hbw3.size)
  obtain ⟨hlt, c0, c1, c2, c3, c4⟩ := o3.below hb4
  go_wp2_with fail
  refine (said_ISNA _ _ (row_one w4 27 #[.int .i64 4, .int .i64 0, .int .i64 0, .string (⟨#[35, 78, 47, 65]⟩ : ByteArray), .slice none 0 0]) (by simp)).mono ?_
  rintro e w5 ⟨rfl, hb5⟩
  have hbw5 := (hbw4.alloc hbw4.size (.cells #[.int .i64 4, .int .i64 0, .int .i64 0, .string (⟨#[35, 78, 47, 65]⟩ : ByteArray), .slice none 0 0] 27)).trans (hb5.mono (by simp; have := hbw4.size; omega))
  go_wp2_with fail
  refine (bool_any true _).mono ?_
  rintro e w6 ⟨rfl, hb6⟩
  have hbw6 := hbw5.trans (hb6.mono hbw5.size)
  go_wp2_with fail
  go_fit (sameV_eq 3 1 0 ⟨#[]⟩ _)
  rintro e w7 ⟨rfl, hb7⟩
  go_wp2
  go_ret
  exact ⟨rfl, hbw6.trans (hb7.mono hbw6.size)⟩

end Go.Proofs.YtkkmfpjmnebjaaaGreat
