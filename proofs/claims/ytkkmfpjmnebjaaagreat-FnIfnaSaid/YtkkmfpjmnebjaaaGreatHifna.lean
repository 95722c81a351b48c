/- IFNA: what the reference says of two values, what the package says, and that both agree. -/
import Derived.Test.YtkkmfpjmnebjaaaGreatIg
set_option linter.unusedSimpArgs false
set_option linter.unusedVariables false
namespace Go.Proofs.YtkkmfpjmnebjaaaGreat
open Go.RowKit
set_option maxRecDepth 100000
set_option maxHeartbeats 1000000

theorem fitsNumbers_IFNA (A : Option Addr) (L : List Ve) (c : Nat) (w : World) (hL : Args w A L) :
    Calls Tryz.prog 109 #[.string (⟨#[73, 70, 78, 65]⟩ : ByteArray), .slice A L.length c] w fun e w' => e = .returned (.tuple #[.bool false, .bool false]) ∧ Below w.heap.size w w' := by
  have HE := numeric_all A L c w hL
  go_enter Tryz.func109, Tryz.ntmps109
  go_wp2_with fail
  refine HE.mono ?_
  rintro e w1 ⟨r, rfl, hb1⟩
  go_wp2
  go_ret2
  exact ⟨rfl, hb1⟩

theorem fitsTexts_IFNA (A : Option Addr) (n c : Nat) (w : World) :
    Calls Tryz.prog 110 #[.string (⟨#[73, 70, 78, 65]⟩ : ByteArray), .slice A n c] w fun e w' => e = .returned (.tuple #[.bool false, .bool false]) ∧ Below w.heap.size w w' := by
  go_enter Tryz.func110, Tryz.ntmps110
  go_wp2
  go_ret2
  exact ⟨rfl, (by (repeat' (first | with_reducible exact Below.refl _ _ | with_reducible refine Below.setCell ?_ ?_ _ | with_reducible refine Below.alloc ?_ ?_ _ | with_reducible refine Below.drew ?_ | with_reducible refine Below.trans ?_ (Below.mono (by assumption) ?_))); all_goals (first | omega | (simp [World.setCell]; done) | (simp [World.setCell]; omega)))⟩

theorem Stat_IFNA (A : Option Addr) (n c : Nat) (w : World) :
    Calls Tryz.prog 90 #[.string (⟨#[73, 70, 78, 65]⟩ : ByteArray), .slice A n c] w fun e w' => e = .returned (.tuple #[(.agg #[.int .i64 0, .int .i64 0, .int .i64 0, .string ⟨#[]⟩, .slice none 0 0]), .bool false]) ∧ Below w.heap.size w w' := by
  go_enter Tryz.func90, Tryz.ntmps90
  go_wp2
  exact bodyPost_ret (v := (.tuple #[(.agg #[.int .i64 0, .int .i64 0, .int .i64 0, .string ⟨#[]⟩, .slice none 0 0]), .bool false])) (by simp [results, Tryz.results90, go_sem]) rfl ⟨rfl, (by (repeat' (first | with_reducible exact Below.refl _ _ | with_reducible refine Below.setCell ?_ ?_ _ | with_reducible refine Below.alloc ?_ ?_ _ | with_reducible refine Below.drew ?_ | with_reducible refine Below.trans ?_ (Below.mono (by assumption) ?_))); all_goals (first | omega | (simp [World.setCell]; done) | (simp [World.setCell]; omega)))⟩

theorem Criteria_IFNA (A : Option Addr) (n c : Nat) (w : World) :
    Calls Tryz.prog 91 #[.string (⟨#[73, 70, 78, 65]⟩ : ByteArray), .slice A n c] w fun e w' => e = .returned (.tuple #[(.agg #[.int .i64 0, .int .i64 0, .int .i64 0, .string ⟨#[]⟩, .slice none 0 0]), .bool false]) ∧ Below w.heap.size w w' := by
  go_enter Tryz.func91, Tryz.ntmps91
  go_wp2
  exact bodyPost_ret (v := (.tuple #[(.agg #[.int .i64 0, .int .i64 0, .int .i64 0, .string ⟨#[]⟩, .slice none 0 0]), .bool false])) (by simp [results, Tryz.results91, go_sem]) rfl ⟨rfl, (by (repeat' (first | with_reducible exact Below.refl _ _ | with_reducible refine Below.setCell ?_ ?_ _ | with_reducible refine Below.alloc ?_ ?_ _ | with_reducible refine Below.drew ?_ | with_reducible refine Below.trans ?_ (Below.mono (by assumption) ?_))); all_goals (first | omega | (simp [World.setCell]; done) | (simp [World.setCell]; omega)))⟩

theorem Lookup_IFNA (A : Option Addr) (n c : Nat) (w : World) :
    Calls Tryz.prog 92 #[.string (⟨#[73, 70, 78, 65]⟩ : ByteArray), .slice A n c] w fun e w' => e = .returned (.tuple #[(.agg #[.int .i64 0, .int .i64 0, .int .i64 0, .string ⟨#[]⟩, .slice none 0 0]), .bool false]) ∧ Below w.heap.size w w' := by
  go_enter Tryz.func92, Tryz.ntmps92
  go_wp2
  exact bodyPost_ret (v := (.tuple #[(.agg #[.int .i64 0, .int .i64 0, .int .i64 0, .string ⟨#[]⟩, .slice none 0 0]), .bool false])) (by simp [results, Tryz.results92, go_sem]) rfl ⟨rfl, (by (repeat' (first | with_reducible exact Below.refl _ _ | with_reducible refine Below.setCell ?_ ?_ _ | with_reducible refine Below.alloc ?_ ?_ _ | with_reducible refine Below.drew ?_ | with_reducible refine Below.trans ?_ (Below.mono (by assumption) ?_))); all_goals (first | omega | (simp [World.setCell]; done) | (simp [World.setCell]; omega)))⟩

theorem CallMath_IFNA (A : Option Addr) (n c : Nat) (w : World) :
    Calls Tryz.prog 93 #[.string (⟨#[73, 70, 78, 65]⟩ : ByteArray), .slice A n c] w fun e w' => e = .returned (.tuple #[(.agg #[.int .i64 0, .int .i64 0, .int .i64 0, .string ⟨#[]⟩, .slice none 0 0]), .bool false]) ∧ Below w.heap.size w w' := by
  go_enter Tryz.func93, Tryz.ntmps93
  go_wp2
  exact bodyPost_ret (v := (.tuple #[(.agg #[.int .i64 0, .int .i64 0, .int .i64 0, .string ⟨#[]⟩, .slice none 0 0]), .bool false])) (by simp [results, Tryz.results93, go_sem]) rfl ⟨rfl, (by (repeat' (first | with_reducible exact Below.refl _ _ | with_reducible refine Below.setCell ?_ ?_ _ | with_reducible refine Below.alloc ?_ ?_ _ | with_reducible refine Below.drew ?_ | with_reducible refine Below.trans ?_ (Below.mono (by assumption) ?_))); all_goals (first | omega | (simp [World.setCell]; done) | (simp [World.setCell]; omega)))⟩

theorem CallText_IFNA (A : Option Addr) (n c : Nat) (w : World) :
    Calls Tryz.prog 94 #[.string (⟨#[73, 70, 78, 65]⟩ : ByteArray), .slice A n c] w fun e w' => e = .returned (.tuple #[(.agg #[.int .i64 0, .int .i64 0, .int .i64 0, .string ⟨#[]⟩, .slice none 0 0]), .bool false]) ∧ Below w.heap.size w w' := by
  go_enter Tryz.func94, Tryz.ntmps94
  go_wp2
  exact bodyPost_ret (v := (.tuple #[(.agg #[.int .i64 0, .int .i64 0, .int .i64 0, .string ⟨#[]⟩, .slice none 0 0]), .bool false])) (by simp [results, Tryz.results94, go_sem]) rfl ⟨rfl, (by (repeat' (first | with_reducible exact Below.refl _ _ | with_reducible refine Below.setCell ?_ ?_ _ | with_reducible refine Below.alloc ?_ ?_ _ | with_reducible refine Below.drew ?_ | with_reducible refine Below.trans ?_ (Below.mono (by assumption) ?_))); all_goals (first | omega | (simp [World.setCell]; done) | (simp [World.setCell]; omega)))⟩


theorem fitsTwo_IFNA (b off c : Nat) (x y : Fv) (w0 : World) (hx : x.Ok) (hy : y.Ok) (hxs : x.k = 2 → x.s.size ≤ 1000) (hys : y.k = 2 → y.s.size ≤ 1000) (hone : One w0 b off x) (htwo : One w0 b (off + 5) y) :
    Said 111 (⟨#[73, 70, 78, 65]⟩ : ByteArray) (some ⟨b, off, none⟩) 2 c ((giv x || x.k == 4) && giv y) true w0 := by
  intro w hbw
  obtain ⟨hlt, c0, c1, c2, c3, c4⟩ := hone.below hbw
  obtain ⟨_, d0, d1, d2, d3, d4⟩ := htwo.below hbw
  have ONE := Lib.hid (hone.below hbw)
  have TWO := Lib.hid (htwo.below hbw)
  have HX := Lib.hid (And.intro hx hxs)
  have HY := Lib.hid (And.intro hy hys)
  clear hone htwo hbw w0 hx hxs hy hys
  cases hgy : giv y
  all_goals
    have HGY := Lib.hid hgy
    clear hgy
    cases hgx : giv x
    · cases h4 : (x.k == 4)
      · have HG := Lib.hid hgx
        clear hgx
        go_enter Tryz.func111, Tryz.ntmps111
        go_wp2_with fail
        refine (given_any x _ HX.out.1 HX.out.2).mono ?_
        rw [HG.out]
        rintro e w1 ⟨rfl, hb1⟩
        have hbB : Below w.heap.size w w1 := ((Below.refl _ _).alloc (Nat.le_refl _) _).trans (hb1.mono (by simp))
        have e0 := (hbB.cell (p := ⟨b, off, none⟩) hlt).trans c0
        clear c0 c1 c2 c3 c4 d0 d1 d2 d3 d4
        go_wp2
        go_ret2
        exact ⟨rfl, (by (repeat' (first | with_reducible exact Below.refl _ _ | with_reducible refine Below.setCell ?_ ?_ _ | with_reducible refine Below.alloc ?_ ?_ _ | with_reducible refine Below.drew ?_ | with_reducible refine Below.trans ?_ (Below.mono (by assumption) ?_))); all_goals (first | omega | (simp [World.setCell]; done) | (simp [World.setCell]; omega)))⟩
      · have HG := Lib.hid hgx
        clear hgx
        go_enter Tryz.func111, Tryz.ntmps111
        go_wp2_with fail
        refine (given_any x _ HX.out.1 HX.out.2).mono ?_
        rw [HG.out]
        rintro e w1 ⟨rfl, hb1⟩
        have hbB : Below w.heap.size w w1 := ((Below.refl _ _).alloc (Nat.le_refl _) _).trans (hb1.mono (by simp))
        have e0 := (hbB.cell (p := ⟨b, off, none⟩) hlt).trans c0
        obtain ⟨_, f0, f1, f2, f3, f4⟩ := TWO.out.below hbB
        clear c0 c1 c2 c3 c4 d0 d1 d2 d3 d4
        go_wp2_with fail
        refine (given_any y _ HY.out.1 HY.out.2).mono ?_
        rw [HGY.out]
        rintro e w2 ⟨rfl, hb2⟩
        go_wp2
        go_ret2
        exact ⟨rfl, hbB.trans (hb2.mono hbB.size)⟩
    · have HG := Lib.hid hgx
      clear hgx
      go_enter Tryz.func111, Tryz.ntmps111
      go_wp2_with fail
      refine (given_any x _ HX.out.1 HX.out.2).mono ?_
      rw [HG.out]
      rintro e w1 ⟨rfl, hb1⟩
      have hbB : Below w.heap.size w w1 := ((Below.refl _ _).alloc (Nat.le_refl _) _).trans (hb1.mono (by simp))
      obtain ⟨_, f0, f1, f2, f3, f4⟩ := TWO.out.below hbB
      clear c0 c1 c2 c3 c4 d0 d1 d2 d3 d4
      go_wp2_with fail
      refine (given_any y _ HY.out.1 HY.out.2).mono ?_
      rw [HGY.out]
      rintro e w2 ⟨rfl, hb2⟩
      go_wp2
      go_ret2
      exact ⟨rfl, hbB.trans (hb2.mono hbB.size)⟩


theorem instead_back_IFNA (b off : Nat) (x y : Fv) (w : World) (h6 : (x.k == 6) = false) (h5 : (x.k == 5) = false) (h4 : (x.k == 4) = true) (hs : (x.s.toList == [35, 78, 47, 65]) = true) (hy : (y.k == 0) = false ∧ y.k ≠ 4 ∧ y.k ≠ 5 ∧ y.k ≠ 6) (hx0 : (x.k == 0) = false) (hone : One w b off x) (htwo : One w b (off + 5) y) (hrow : Row w b (off + 5) 5 (fvs [y])) :
    Calls Tryz.prog 168 #[.string (⟨#[73, 70, 78, 65]⟩ : ByteArray), .slice (some ⟨b, off, none⟩) 2 2] w fun e w' => e = .returned (.agg #[.int .i64 y.k, .int .i64 y.n, .int .i64 y.d, .string y.s, .slice none 0 0]) ∧ Below w.heap.size w w' := by
  obtain ⟨hlt, c0, c1, c2, c3, c4⟩ := hone
  obtain ⟨_, d0, d1, d2, d3, d4⟩ := htwo
  have hbA : Below w.heap.size w (w.alloc (.cells #[.int .i64 0, .int .i64 0, .int .i64 0, .string ⟨#[]⟩, .slice none 0 0] 27)) := (Below.refl _ _).alloc (Nat.le_refl _) _
  have hbB : Below w.heap.size w ((w.alloc (.cells #[.int .i64 0, .int .i64 0, .int .i64 0, .string ⟨#[]⟩, .slice none 0 0] 27)).alloc (.cells #[.int .i64 x.k, .int .i64 x.n, .int .i64 x.d, .string x.s, .slice none 0 0] 27)) := hbA.alloc hbA.size _
  have z0 : Zero5 ((w.alloc (.cells #[.int .i64 0, .int .i64 0, .int .i64 0, .string ⟨#[]⟩, .slice none 0 0] 27)).alloc (.cells #[.int .i64 x.k, .int .i64 x.n, .int .i64 x.d, .string x.s, .slice none 0 0] 27)) w.heap.size := (Zero5.new w).below ((Below.refl _ _).alloc (Nat.le_refl _) _)
  have ZB := Lib.hid (And.intro z0 hbB)
  have HY := Lib.hid hy
  have HR := Lib.hid hrow
  clear z0 hbB hbA hy hrow
  go_enter Tryz.func168, Tryz.ntmps168
  go_wp2_with fail
  go_fit (plainly_any y none 0 [] _ (.inl rfl) (by simp) (by simp) HY.out.1 (by simpa using HY.out.2.2.1))
  rintro e w1 ⟨rfl, hb1⟩
  obtain ⟨z0, hbB⟩ := ZB.out
  obtain ⟨q, q0, q1, q2, q3, q4, qf⟩ := z0.below hb1
  have hbw := hbB.trans (hb1.mono hbB.size)
  clear c0 c1 c2 c3 c4 d0 d1 d2 d3 d4 z0 hbB hb1 ZB
  go_wp2
  exact bodyPost_ret (v := (.agg #[.int .i64 y.k, .int .i64 y.n, .int .i64 y.d, .string y.s, .slice none 0 0])) (by simp [results, Tryz.results168, go_sem, q, q0, q1, q2, q3, q4, qf]) rfl ⟨rfl, (by (repeat' (first | with_reducible exact Below.refl _ _ | with_reducible refine Below.setCell ?_ ?_ _ | with_reducible refine Below.alloc ?_ ?_ _ | with_reducible refine Below.drew ?_ | with_reducible refine Below.trans ?_ (Below.mono (by assumption) ?_))); all_goals (first | omega | (simp [World.setCell]; done) | (simp [World.setCell]; omega)))⟩


theorem instead_same_IFNA (b off : Nat) (x y : Fv) (w : World) (h6 : (x.k == 6) = false) (h5 : (x.k == 5) = false) (h4 : (x.k == 4) = false) (hy : (y.k == 0) = false ∧ y.k ≠ 4 ∧ y.k ≠ 5 ∧ y.k ≠ 6) (hx0 : (x.k == 0) = false) (hone : One w b off x) (htwo : One w b (off + 5) y) (hrow : Row w b (off + 5) 5 (fvs [y])) :
    Calls Tryz.prog 168 #[.string (⟨#[73, 70, 78, 65]⟩ : ByteArray), .slice (some ⟨b, off, none⟩) 2 2] w fun e w' => e = .returned (.agg #[.int .i64 x.k, .int .i64 x.n, .int .i64 x.d, .string x.s, .slice none 0 0]) ∧ Below w.heap.size w w' := by
  obtain ⟨hlt, c0, c1, c2, c3, c4⟩ := hone
  obtain ⟨_, d0, d1, d2, d3, d4⟩ := htwo
  have hbA : Below w.heap.size w (w.alloc (.cells #[.int .i64 0, .int .i64 0, .int .i64 0, .string ⟨#[]⟩, .slice none 0 0] 27)) := (Below.refl _ _).alloc (Nat.le_refl _) _
  have hbB : Below w.heap.size w ((w.alloc (.cells #[.int .i64 0, .int .i64 0, .int .i64 0, .string ⟨#[]⟩, .slice none 0 0] 27)).alloc (.cells #[.int .i64 x.k, .int .i64 x.n, .int .i64 x.d, .string x.s, .slice none 0 0] 27)) := hbA.alloc hbA.size _
  have z0 : Zero5 ((w.alloc (.cells #[.int .i64 0, .int .i64 0, .int .i64 0, .string ⟨#[]⟩, .slice none 0 0] 27)).alloc (.cells #[.int .i64 x.k, .int .i64 x.n, .int .i64 x.d, .string x.s, .slice none 0 0] 27)) w.heap.size := (Zero5.new w).below ((Below.refl _ _).alloc (Nat.le_refl _) _)
  have ZB := Lib.hid (And.intro z0 hbB)
  have HY := Lib.hid hy
  have HR := Lib.hid hrow
  clear z0 hbB hbA hy hrow
  go_enter Tryz.func168, Tryz.ntmps168
  go_wp2_with fail
  go_region_with (go_at_call 252; refine (plainly_any x (some ⟨b, off + 5, none⟩) 1 [y] _ ?_ (by simp) ?_ hx0 h5).mono ?_; exact .inr ⟨b, off + 5, rfl, Nat.lt_of_lt_of_le hlt (by simp; omega), HR.out.below ZB.out.2.drew hlt⟩; intro v hv; simp at hv; subst hv; exact HY.out.2; rintro e w1 ⟨rfl, hb1⟩; obtain ⟨q, q0, q1, q2, q3, q4, qf⟩ := (ZB.out.1.drew).below hb1)
  have hbw := ZB.out.2.drew.trans (hb1.mono ZB.out.2.size)
  go_wp2
  exact bodyPost_ret (v := (.agg #[.int .i64 x.k, .int .i64 x.n, .int .i64 x.d, .string x.s, .slice none 0 0])) (by simp [results, Tryz.results168, go_sem, q, q0, q1, q2, q3, q4, qf]) rfl ⟨rfl, (by (repeat' (first | with_reducible exact Below.refl _ _ | with_reducible refine Below.setCell ?_ ?_ _ | with_reducible refine Below.alloc ?_ ?_ _ | with_reducible refine Below.drew ?_ | with_reducible refine Below.trans ?_ (Below.mono (by assumption) ?_))); all_goals (first | omega | (simp [World.setCell]; done) | (simp [World.setCell]; omega)))⟩


theorem instead_err_IFNA (b off : Nat) (x y : Fv) (w : World) (h6 : (x.k == 6) = false) (h5 : (x.k == 5) = false) (h4 : (x.k == 4) = true) (hs : (x.s.toList == [35, 78, 47, 65]) = false) (hy : (y.k == 0) = false ∧ y.k ≠ 4 ∧ y.k ≠ 5 ∧ y.k ≠ 6) (hx0 : (x.k == 0) = false) (hone : One w b off x) (htwo : One w b (off + 5) y) (hrow : Row w b (off + 5) 5 (fvs [y])) :
    Calls Tryz.prog 168 #[.string (⟨#[73, 70, 78, 65]⟩ : ByteArray), .slice (some ⟨b, off, none⟩) 2 2] w fun e w' => e = .returned (.agg #[.int .i64 x.k, .int .i64 x.n, .int .i64 x.d, .string x.s, .slice none 0 0]) ∧ Below w.heap.size w w' := by
  obtain ⟨hlt, c0, c1, c2, c3, c4⟩ := hone
  obtain ⟨_, d0, d1, d2, d3, d4⟩ := htwo
  have hbA : Below w.heap.size w (w.alloc (.cells #[.int .i64 0, .int .i64 0, .int .i64 0, .string ⟨#[]⟩, .slice none 0 0] 27)) := (Below.refl _ _).alloc (Nat.le_refl _) _
  have hbB : Below w.heap.size w ((w.alloc (.cells #[.int .i64 0, .int .i64 0, .int .i64 0, .string ⟨#[]⟩, .slice none 0 0] 27)).alloc (.cells #[.int .i64 x.k, .int .i64 x.n, .int .i64 x.d, .string x.s, .slice none 0 0] 27)) := hbA.alloc hbA.size _
  have z0 : Zero5 ((w.alloc (.cells #[.int .i64 0, .int .i64 0, .int .i64 0, .string ⟨#[]⟩, .slice none 0 0] 27)).alloc (.cells #[.int .i64 x.k, .int .i64 x.n, .int .i64 x.d, .string x.s, .slice none 0 0] 27)) w.heap.size := (Zero5.new w).below ((Below.refl _ _).alloc (Nat.le_refl _) _)
  have ZB := Lib.hid (And.intro z0 hbB)
  have HY := Lib.hid hy
  have HR := Lib.hid hrow
  clear z0 hbB hbA hy hrow
  go_enter Tryz.func168, Tryz.ntmps168
  go_wp2_with fail
  go_region_with (go_at_call 252; refine (plainly_any x (some ⟨b, off + 5, none⟩) 1 [y] _ ?_ (by simp) ?_ hx0 h5).mono ?_; exact .inr ⟨b, off + 5, rfl, Nat.lt_of_lt_of_le hlt (by simp; omega), HR.out.below ZB.out.2.drew hlt⟩; intro v hv; simp at hv; subst hv; exact HY.out.2; rintro e w1 ⟨rfl, hb1⟩; obtain ⟨q, q0, q1, q2, q3, q4, qf⟩ := (ZB.out.1.drew).below hb1)
  have hbw := ZB.out.2.drew.trans (hb1.mono ZB.out.2.size)
  go_wp2
  exact bodyPost_ret (v := (.agg #[.int .i64 x.k, .int .i64 x.n, .int .i64 x.d, .string x.s, .slice none 0 0])) (by simp [results, Tryz.results168, go_sem, q, q0, q1, q2, q3, q4, qf]) rfl ⟨rfl, (by (repeat' (first | with_reducible exact Below.refl _ _ | with_reducible refine Below.setCell ?_ ?_ _ | with_reducible refine Below.alloc ?_ ?_ _ | with_reducible refine Below.drew ?_ | with_reducible refine Below.trans ?_ (Below.mono (by assumption) ?_))); all_goals (first | omega | (simp [World.setCell]; done) | (simp [World.setCell]; omega)))⟩


theorem logic_back_IFNA (b off : Nat) (x y : Fv) (w0 : World) (h6 : (x.k == 6) = false) (h5 : (x.k == 5) = false) (h4 : (x.k == 4) = true) (hs : (x.s.toList == [35, 78, 47, 65]) = true) (hy : (y.k == 0) = false ∧ y.k ≠ 4 ∧ y.k ≠ 5 ∧ y.k ≠ 6) (hx0 : (x.k == 0) = false) (hone : One w0 b off x) (htwo : One w0 b (off + 5) y) (hrow : Row w0 b (off + 5) 5 (fvs [y])) :
    Here 95 (⟨#[73, 70, 78, 65]⟩ : ByteArray) (some ⟨b, off, none⟩) 2 2 (FlatP fun u => u = y) w0 := by
  intro w hbw
  have z0 := Zero5.new w
  have hbA : Below w.heap.size w (w.alloc (.cells #[.int .i64 0, .int .i64 0, .int .i64 0, .string ⟨#[]⟩, .slice none 0 0] 27)) := (Below.refl _ _).alloc (Nat.le_refl _) _
  have hin := instead_back_IFNA b off x y _ h6 h5 h4 hs hy hx0 ((hone.below hbw).below hbA) ((htwo.below hbw).below hbA) ((hrow.below hbw hone.lt).below hbA (Nat.lt_of_lt_of_le hone.lt hbw.size))
  have HI := Lib.hid hin
  clear hin h6 h5 hy hx0 hone htwo hrow
  go_enter Tryz.func95, Tryz.ntmps95
  go_wp2_with fail
  refine HI.out.mono ?_
  rintro e w1 ⟨rfl, hb1⟩
  obtain ⟨q, q0, q1, q2, q3, q4, qf⟩ := z0.below hb1
  have hbw1 := hbA.trans (hb1.mono hbA.size)
  clear z0 hbA hb1 HI hbw
  go_wp2
  exact bodyPost_ret (v := (.tuple #[(.agg #[.int .i64 y.k, .int .i64 y.n, .int .i64 y.d, .string y.s, .slice none 0 0]), .bool true])) (by simp [results, Tryz.results95, go_sem, q, q0, q1, q2, q3, q4, qf]) rfl ⟨⟨y, none, 0, 0⟩, rfl, ⟨y, rfl, rfl⟩, (by (repeat' (first | with_reducible exact Below.refl _ _ | with_reducible refine Below.setCell ?_ ?_ _ | with_reducible refine Below.alloc ?_ ?_ _ | with_reducible refine Below.drew ?_ | with_reducible refine Below.trans ?_ (Below.mono (by assumption) ?_))); all_goals (first | omega | (simp [World.setCell]; done) | (simp [World.setCell]; omega)))⟩


theorem logic_same_IFNA (b off : Nat) (x y : Fv) (w0 : World) (h6 : (x.k == 6) = false) (h5 : (x.k == 5) = false) (h4 : (x.k == 4) = false) (hy : (y.k == 0) = false ∧ y.k ≠ 4 ∧ y.k ≠ 5 ∧ y.k ≠ 6) (hx0 : (x.k == 0) = false) (hone : One w0 b off x) (htwo : One w0 b (off + 5) y) (hrow : Row w0 b (off + 5) 5 (fvs [y])) :
    Here 95 (⟨#[73, 70, 78, 65]⟩ : ByteArray) (some ⟨b, off, none⟩) 2 2 (FlatP fun u => u = x) w0 := by
  intro w hbw
  have z0 := Zero5.new w
  have hbA : Below w.heap.size w (w.alloc (.cells #[.int .i64 0, .int .i64 0, .int .i64 0, .string ⟨#[]⟩, .slice none 0 0] 27)) := (Below.refl _ _).alloc (Nat.le_refl _) _
  have hin := instead_same_IFNA b off x y _ h6 h5 h4 hy hx0 ((hone.below hbw).below hbA) ((htwo.below hbw).below hbA) ((hrow.below hbw hone.lt).below hbA (Nat.lt_of_lt_of_le hone.lt hbw.size))
  have HI := Lib.hid hin
  clear hin h6 h5 hy hx0 hone htwo hrow
  go_enter Tryz.func95, Tryz.ntmps95
  go_wp2_with fail
  refine HI.out.mono ?_
  rintro e w1 ⟨rfl, hb1⟩
  obtain ⟨q, q0, q1, q2, q3, q4, qf⟩ := z0.below hb1
  have hbw1 := hbA.trans (hb1.mono hbA.size)
  clear z0 hbA hb1 HI hbw
  go_wp2
  exact bodyPost_ret (v := (.tuple #[(.agg #[.int .i64 x.k, .int .i64 x.n, .int .i64 x.d, .string x.s, .slice none 0 0]), .bool true])) (by simp [results, Tryz.results95, go_sem, q, q0, q1, q2, q3, q4, qf]) rfl ⟨⟨x, none, 0, 0⟩, rfl, ⟨x, rfl, rfl⟩, (by (repeat' (first | with_reducible exact Below.refl _ _ | with_reducible refine Below.setCell ?_ ?_ _ | with_reducible refine Below.alloc ?_ ?_ _ | with_reducible refine Below.drew ?_ | with_reducible refine Below.trans ?_ (Below.mono (by assumption) ?_))); all_goals (first | omega | (simp [World.setCell]; done) | (simp [World.setCell]; omega)))⟩


theorem logic_err_IFNA (b off : Nat) (x y : Fv) (w0 : World) (h6 : (x.k == 6) = false) (h5 : (x.k == 5) = false) (h4 : (x.k == 4) = true) (hs : (x.s.toList == [35, 78, 47, 65]) = false) (hy : (y.k == 0) = false ∧ y.k ≠ 4 ∧ y.k ≠ 5 ∧ y.k ≠ 6) (hx0 : (x.k == 0) = false) (hone : One w0 b off x) (htwo : One w0 b (off + 5) y) (hrow : Row w0 b (off + 5) 5 (fvs [y])) :
    Here 95 (⟨#[73, 70, 78, 65]⟩ : ByteArray) (some ⟨b, off, none⟩) 2 2 (FlatP fun u => u = x) w0 := by
  intro w hbw
  have z0 := Zero5.new w
  have hbA : Below w.heap.size w (w.alloc (.cells #[.int .i64 0, .int .i64 0, .int .i64 0, .string ⟨#[]⟩, .slice none 0 0] 27)) := (Below.refl _ _).alloc (Nat.le_refl _) _
  have hin := instead_err_IFNA b off x y _ h6 h5 h4 hs hy hx0 ((hone.below hbw).below hbA) ((htwo.below hbw).below hbA) ((hrow.below hbw hone.lt).below hbA (Nat.lt_of_lt_of_le hone.lt hbw.size))
  have HI := Lib.hid hin
  clear hin h6 h5 hy hx0 hone htwo hrow
  go_enter Tryz.func95, Tryz.ntmps95
  go_wp2_with fail
  refine HI.out.mono ?_
  rintro e w1 ⟨rfl, hb1⟩
  obtain ⟨q, q0, q1, q2, q3, q4, qf⟩ := z0.below hb1
  have hbw1 := hbA.trans (hb1.mono hbA.size)
  clear z0 hbA hb1 HI hbw
  go_wp2
  exact bodyPost_ret (v := (.tuple #[(.agg #[.int .i64 x.k, .int .i64 x.n, .int .i64 x.d, .string x.s, .slice none 0 0]), .bool true])) (by simp [results, Tryz.results95, go_sem, q, q0, q1, q2, q3, q4, qf]) rfl ⟨⟨x, none, 0, 0⟩, rfl, ⟨x, rfl, rfl⟩, (by (repeat' (first | with_reducible exact Below.refl _ _ | with_reducible refine Below.setCell ?_ ?_ _ | with_reducible refine Below.alloc ?_ ?_ _ | with_reducible refine Below.drew ?_ | with_reducible refine Below.trans ?_ (Below.mono (by assumption) ?_))); all_goals (first | omega | (simp [World.setCell]; done) | (simp [World.setCell]; omega)))⟩


theorem ff_1_IFNA (p : Addr) (LB E G : Nat) (x7 : Nat) (s7 : ByteArray) (b7 : Bool) (e7 : ByteArray) (x6 : Nat) (s6 : ByteArray) (b6 : Bool) (e6 : ByteArray) (t6 : Int) (w : World) (h : List2 w LB E G (.iface 78 (.agg #[.string ⟨#[]⟩, .float .f64 x7, .string s7, .slice none 0 0, .slice none 0 0, .bool b7, .string e7, .int .u8 1, .pointer none, .pointer none])) (.iface 78 (.agg #[.string ⟨#[]⟩, .float .f64 x6, .string s6, .slice none 0 0, .slice none 0 0, .bool b6, .string e6, .int .u8 t6, .pointer none, .pointer none]))) :
    Calls Tryz.prog 78 #[.pointer (some p), .pointer (some ⟨LB, 0, none⟩)] w fun e w' => e = .returned (.agg #[.string ⟨#[]⟩, .float .f64 x7, .string s7, .slice none 0 0, .slice none 0 0, .bool b7, .string e7, .int .u8 1, .pointer none, .pointer none]) ∧ Below w.heap.size w w' := by
  obtain ⟨hlt, hlte, hltg, r0, r1, r4, e3, g3⟩ := h
  have r0' : ∀ o, (w.alloc o).cell? ⟨LB, 0, none⟩ = some (.pointer (some ⟨E, 0, none⟩)) := fun o => (World.cell?_alloc_lt _ _ _ hlt).trans r0
  have r4' : ∀ o, (w.alloc o).cell? ⟨LB, 4, none⟩ = some (.int .i64 2) := fun o => (World.cell?_alloc_lt _ _ _ hlt).trans r4
  have r1'' : ∀ o o', ((w.alloc o).alloc o').cell? ⟨LB, 1, none⟩ = some (.pointer (some ⟨G, 0, none⟩)) := fun o o' => (World.cell?_alloc_lt _ _ _ (by simp; omega)).trans ((World.cell?_alloc_lt _ _ _ hlt).trans r1)
  have r4'' : ∀ o o', ((w.alloc o).alloc o').cell? ⟨LB, 4, none⟩ = some (.int .i64 2) := fun o o' => (World.cell?_alloc_lt _ _ _ (by simp; omega)).trans (r4' o)
  go_enter Tryz.func78, Tryz.ntmps78
  go_wp2_with (first | (go_at_call 98; refine (len_any _ _ _ (r4' _)).mono ?_; rintro e v1 ⟨rfl, rfl⟩) | (go_at_call 100; refine (front_any _ _ _ _ (r0' _) (r4' _) (by decide)).mono ?_; rintro e v2 ⟨rfl, rfl⟩) | (go_at_call 105; refine (back_any _ _ _ _ (r1'' _ _) (r4'' _ _) (by decide)).mono ?_; rintro e v3 ⟨rfl, rfl⟩))
  exact bodyPost_ret (v := (.agg #[.string ⟨#[]⟩, .float .f64 x7, .string s7, .slice none 0 0, .slice none 0 0, .bool b7, .string e7, .int .u8 1, .pointer none, .pointer none])) (by simp [results, Tryz.results78, go_sem]) rfl ⟨rfl, (by (repeat' (first | with_reducible exact Below.refl _ _ | with_reducible refine Below.setCell ?_ ?_ _ | with_reducible refine Below.alloc ?_ ?_ _ | with_reducible refine Below.drew ?_ | with_reducible refine Below.trans ?_ (Below.mono (by assumption) ?_))); all_goals (first | omega | (simp [World.setCell]; done) | (simp [World.setCell]; omega)))⟩


theorem ff_2_IFNA (p : Addr) (LB E G : Nat) (x7 : Nat) (s7 : ByteArray) (b7 : Bool) (e7 : ByteArray) (x6 : Nat) (s6 : ByteArray) (b6 : Bool) (e6 : ByteArray) (t6 : Int) (w : World) (h : List2 w LB E G (.iface 78 (.agg #[.string ⟨#[]⟩, .float .f64 x7, .string s7, .slice none 0 0, .slice none 0 0, .bool b7, .string e7, .int .u8 2, .pointer none, .pointer none])) (.iface 78 (.agg #[.string ⟨#[]⟩, .float .f64 x6, .string s6, .slice none 0 0, .slice none 0 0, .bool b6, .string e6, .int .u8 t6, .pointer none, .pointer none]))) :
    Calls Tryz.prog 78 #[.pointer (some p), .pointer (some ⟨LB, 0, none⟩)] w fun e w' => e = .returned (.agg #[.string ⟨#[]⟩, .float .f64 x7, .string s7, .slice none 0 0, .slice none 0 0, .bool b7, .string e7, .int .u8 2, .pointer none, .pointer none]) ∧ Below w.heap.size w w' := by
  obtain ⟨hlt, hlte, hltg, r0, r1, r4, e3, g3⟩ := h
  have r0' : ∀ o, (w.alloc o).cell? ⟨LB, 0, none⟩ = some (.pointer (some ⟨E, 0, none⟩)) := fun o => (World.cell?_alloc_lt _ _ _ hlt).trans r0
  have r4' : ∀ o, (w.alloc o).cell? ⟨LB, 4, none⟩ = some (.int .i64 2) := fun o => (World.cell?_alloc_lt _ _ _ hlt).trans r4
  have r1'' : ∀ o o', ((w.alloc o).alloc o').cell? ⟨LB, 1, none⟩ = some (.pointer (some ⟨G, 0, none⟩)) := fun o o' => (World.cell?_alloc_lt _ _ _ (by simp; omega)).trans ((World.cell?_alloc_lt _ _ _ hlt).trans r1)
  have r4'' : ∀ o o', ((w.alloc o).alloc o').cell? ⟨LB, 4, none⟩ = some (.int .i64 2) := fun o o' => (World.cell?_alloc_lt _ _ _ (by simp; omega)).trans (r4' o)
  go_enter Tryz.func78, Tryz.ntmps78
  go_wp2_with (first | (go_at_call 98; refine (len_any _ _ _ (r4' _)).mono ?_; rintro e v1 ⟨rfl, rfl⟩) | (go_at_call 100; refine (front_any _ _ _ _ (r0' _) (r4' _) (by decide)).mono ?_; rintro e v2 ⟨rfl, rfl⟩) | (go_at_call 105; refine (back_any _ _ _ _ (r1'' _ _) (r4'' _ _) (by decide)).mono ?_; rintro e v3 ⟨rfl, rfl⟩))
  exact bodyPost_ret (v := (.agg #[.string ⟨#[]⟩, .float .f64 x7, .string s7, .slice none 0 0, .slice none 0 0, .bool b7, .string e7, .int .u8 2, .pointer none, .pointer none])) (by simp [results, Tryz.results78, go_sem]) rfl ⟨rfl, (by (repeat' (first | with_reducible exact Below.refl _ _ | with_reducible refine Below.setCell ?_ ?_ _ | with_reducible refine Below.alloc ?_ ?_ _ | with_reducible refine Below.drew ?_ | with_reducible refine Below.trans ?_ (Below.mono (by assumption) ?_))); all_goals (first | omega | (simp [World.setCell]; done) | (simp [World.setCell]; omega)))⟩


theorem ff_6_IFNA (p : Addr) (LB E G : Nat) (x6 : Nat) (s6 : ByteArray) (b6 : Bool) (e6 : ByteArray) (t6 : Int) (w : World) (h : List2 w LB E G (.iface 78 (.agg #[.string ⟨#[]⟩, .float .f64 0, .string ⟨#[]⟩, .slice none 0 0, .slice none 0 0, .bool false, .string ⟨#[]⟩, .int .u8 6, .pointer none, .pointer none])) (.iface 78 (.agg #[.string ⟨#[]⟩, .float .f64 x6, .string s6, .slice none 0 0, .slice none 0 0, .bool b6, .string e6, .int .u8 t6, .pointer none, .pointer none]))) :
    Calls Tryz.prog 78 #[.pointer (some p), .pointer (some ⟨LB, 0, none⟩)] w fun e w' => e = .returned (.agg #[.string ⟨#[]⟩, .float .f64 0, .string ⟨#[]⟩, .slice none 0 0, .slice none 0 0, .bool false, .string ⟨#[]⟩, .int .u8 6, .pointer none, .pointer none]) ∧ Below w.heap.size w w' := by
  obtain ⟨hlt, hlte, hltg, r0, r1, r4, e3, g3⟩ := h
  have r0' : ∀ o, (w.alloc o).cell? ⟨LB, 0, none⟩ = some (.pointer (some ⟨E, 0, none⟩)) := fun o => (World.cell?_alloc_lt _ _ _ hlt).trans r0
  have r4' : ∀ o, (w.alloc o).cell? ⟨LB, 4, none⟩ = some (.int .i64 2) := fun o => (World.cell?_alloc_lt _ _ _ hlt).trans r4
  have r1'' : ∀ o o', ((w.alloc o).alloc o').cell? ⟨LB, 1, none⟩ = some (.pointer (some ⟨G, 0, none⟩)) := fun o o' => (World.cell?_alloc_lt _ _ _ (by simp; omega)).trans ((World.cell?_alloc_lt _ _ _ hlt).trans r1)
  have r4'' : ∀ o o', ((w.alloc o).alloc o').cell? ⟨LB, 4, none⟩ = some (.int .i64 2) := fun o o' => (World.cell?_alloc_lt _ _ _ (by simp; omega)).trans (r4' o)
  go_enter Tryz.func78, Tryz.ntmps78
  go_wp2_with (first | (go_at_call 98; refine (len_any _ _ _ (r4' _)).mono ?_; rintro e v1 ⟨rfl, rfl⟩) | (go_at_call 100; refine (front_any _ _ _ _ (r0' _) (r4' _) (by decide)).mono ?_; rintro e v2 ⟨rfl, rfl⟩) | (go_at_call 105; refine (back_any _ _ _ _ (r1'' _ _) (r4'' _ _) (by decide)).mono ?_; rintro e v3 ⟨rfl, rfl⟩))
  exact bodyPost_ret (v := (.agg #[.string ⟨#[]⟩, .float .f64 0, .string ⟨#[]⟩, .slice none 0 0, .slice none 0 0, .bool false, .string ⟨#[]⟩, .int .u8 6, .pointer none, .pointer none])) (by simp [results, Tryz.results78, go_sem]) rfl ⟨rfl, (by (repeat' (first | with_reducible exact Below.refl _ _ | with_reducible refine Below.setCell ?_ ?_ _ | with_reducible refine Below.alloc ?_ ?_ _ | with_reducible refine Below.drew ?_ | with_reducible refine Below.trans ?_ (Below.mono (by assumption) ?_))); all_goals (first | omega | (simp [World.setCell]; done) | (simp [World.setCell]; omega)))⟩


theorem ff_5n_IFNA (p : Addr) (LB E G : Nat) (s : ByteArray) (hs : (s.toList == [35, 78, 47, 65]) = false) (x6 : Nat) (s6 : ByteArray) (b6 : Bool) (e6 : ByteArray) (t6 : Int) (w : World) (h : List2 w LB E G (.iface 78 (.agg #[.string ⟨#[]⟩, .float .f64 0, .string s, .slice none 0 0, .slice none 0 0, .bool false, .string s, .int .u8 5, .pointer none, .pointer none])) (.iface 78 (.agg #[.string ⟨#[]⟩, .float .f64 x6, .string s6, .slice none 0 0, .slice none 0 0, .bool b6, .string e6, .int .u8 t6, .pointer none, .pointer none]))) :
    Calls Tryz.prog 78 #[.pointer (some p), .pointer (some ⟨LB, 0, none⟩)] w fun e w' => e = .returned (.agg #[.string ⟨#[]⟩, .float .f64 0, .string s, .slice none 0 0, .slice none 0 0, .bool false, .string s, .int .u8 5, .pointer none, .pointer none]) ∧ Below w.heap.size w w' := by
  obtain ⟨hlt, hlte, hltg, r0, r1, r4, e3, g3⟩ := h
  have r0' : ∀ o, (w.alloc o).cell? ⟨LB, 0, none⟩ = some (.pointer (some ⟨E, 0, none⟩)) := fun o => (World.cell?_alloc_lt _ _ _ hlt).trans r0
  have r4' : ∀ o, (w.alloc o).cell? ⟨LB, 4, none⟩ = some (.int .i64 2) := fun o => (World.cell?_alloc_lt _ _ _ hlt).trans r4
  have r1'' : ∀ o o', ((w.alloc o).alloc o').cell? ⟨LB, 1, none⟩ = some (.pointer (some ⟨G, 0, none⟩)) := fun o o' => (World.cell?_alloc_lt _ _ _ (by simp; omega)).trans ((World.cell?_alloc_lt _ _ _ hlt).trans r1)
  have r4'' : ∀ o o', ((w.alloc o).alloc o').cell? ⟨LB, 4, none⟩ = some (.int .i64 2) := fun o o' => (World.cell?_alloc_lt _ _ _ (by simp; omega)).trans (r4' o)
  go_enter Tryz.func78, Tryz.ntmps78
  go_wp2_with (first | (go_at_call 98; refine (len_any _ _ _ (r4' _)).mono ?_; rintro e v1 ⟨rfl, rfl⟩) | (go_at_call 100; refine (front_any _ _ _ _ (r0' _) (r4' _) (by decide)).mono ?_; rintro e v2 ⟨rfl, rfl⟩) | (go_at_call 105; refine (back_any _ _ _ _ (r1'' _ _) (r4'' _ _) (by decide)).mono ?_; rintro e v3 ⟨rfl, rfl⟩))
  exact bodyPost_ret (v := (.agg #[.string ⟨#[]⟩, .float .f64 0, .string s, .slice none 0 0, .slice none 0 0, .bool false, .string s, .int .u8 5, .pointer none, .pointer none])) (by simp [results, Tryz.results78, go_sem]) rfl ⟨rfl, (by (repeat' (first | with_reducible exact Below.refl _ _ | with_reducible refine Below.setCell ?_ ?_ _ | with_reducible refine Below.alloc ?_ ?_ _ | with_reducible refine Below.drew ?_ | with_reducible refine Below.trans ?_ (Below.mono (by assumption) ?_))); all_goals (first | omega | (simp [World.setCell]; done) | (simp [World.setCell]; omega)))⟩


theorem ff_5_IFNA (p : Addr) (LB E G : Nat) (s : ByteArray) (hs : (s.toList == [35, 78, 47, 65]) = true) (x6 : Nat) (s6 : ByteArray) (b6 : Bool) (e6 : ByteArray) (t6 : Int) (w : World) (h : List2 w LB E G (.iface 78 (.agg #[.string ⟨#[]⟩, .float .f64 0, .string s, .slice none 0 0, .slice none 0 0, .bool false, .string s, .int .u8 5, .pointer none, .pointer none])) (.iface 78 (.agg #[.string ⟨#[]⟩, .float .f64 x6, .string s6, .slice none 0 0, .slice none 0 0, .bool b6, .string e6, .int .u8 t6, .pointer none, .pointer none]))) :
    Calls Tryz.prog 78 #[.pointer (some p), .pointer (some ⟨LB, 0, none⟩)] w fun e w' => e = .returned (.agg #[.string ⟨#[]⟩, .float .f64 x6, .string s6, .slice none 0 0, .slice none 0 0, .bool b6, .string e6, .int .u8 t6, .pointer none, .pointer none]) ∧ Below w.heap.size w w' := by
  obtain ⟨hlt, hlte, hltg, r0, r1, r4, e3, g3⟩ := h
  have r0' : ∀ o, (w.alloc o).cell? ⟨LB, 0, none⟩ = some (.pointer (some ⟨E, 0, none⟩)) := fun o => (World.cell?_alloc_lt _ _ _ hlt).trans r0
  have r4' : ∀ o, (w.alloc o).cell? ⟨LB, 4, none⟩ = some (.int .i64 2) := fun o => (World.cell?_alloc_lt _ _ _ hlt).trans r4
  have r1'' : ∀ o o', ((w.alloc o).alloc o').cell? ⟨LB, 1, none⟩ = some (.pointer (some ⟨G, 0, none⟩)) := fun o o' => (World.cell?_alloc_lt _ _ _ (by simp; omega)).trans ((World.cell?_alloc_lt _ _ _ hlt).trans r1)
  have r4'' : ∀ o o', ((w.alloc o).alloc o').cell? ⟨LB, 4, none⟩ = some (.int .i64 2) := fun o o' => (World.cell?_alloc_lt _ _ _ (by simp; omega)).trans (r4' o)
  go_enter Tryz.func78, Tryz.ntmps78
  go_wp2_with (first | (go_at_call 98; refine (len_any _ _ _ (r4' _)).mono ?_; rintro e v1 ⟨rfl, rfl⟩) | (go_at_call 100; refine (front_any _ _ _ _ (r0' _) (r4' _) (by decide)).mono ?_; rintro e v2 ⟨rfl, rfl⟩) | (go_at_call 105; refine (back_any _ _ _ _ (r1'' _ _) (r4'' _ _) (by decide)).mono ?_; rintro e v3 ⟨rfl, rfl⟩))
  exact bodyPost_ret (v := (.agg #[.string ⟨#[]⟩, .float .f64 x6, .string s6, .slice none 0 0, .slice none 0 0, .bool b6, .string e6, .int .u8 t6, .pointer none, .pointer none])) (by simp [results, Tryz.results78, go_sem]) rfl ⟨rfl, (by (repeat' (first | with_reducible exact Below.refl _ _ | with_reducible refine Below.setCell ?_ ?_ _ | with_reducible refine Below.alloc ?_ ?_ _ | with_reducible refine Below.drew ?_ | with_reducible refine Below.trans ?_ (Below.mono (by assumption) ?_))); all_goals (first | omega | (simp [World.setCell]; done) | (simp [World.setCell]; omega)))⟩


theorem door_IFNA (b off c : Nat) (g h : Gl) (f : Value) (res : Gl) (w : World) (hg : g.Ok) (hh : h.Ok) (hrow : Row w b off 4 [g.cells, h.cells]) (hb : b < w.heap.size)
    (hf : ∀ (W : World) (p : Addr) (LB E G : Nat), List2 W LB E G (.iface 78 g.inner) (.iface 78 h.inner) → Calls Tryz.prog 78 #[.pointer (some p), .pointer (some ⟨LB, 0, none⟩)] W fun e w' => e = .returned f ∧ Below W.heap.size W w')
    (ho : Outs f res) :
    Calls Tryz.prog 52 #[.slice (some ⟨b, off, none⟩) 2 c] w fun e w' => e = .returned (.agg #[.int .i64 res.k, .float .f64 res.x, .string res.s, .slice none 0 0]) ∧ Below w.heap.size w w' := by
  have z0 := Zero4.new w 56
  have hbA : Below w.heap.size w (w.alloc (.cells #[.int .i64 0, .float .f64 0, .string ⟨#[]⟩, .slice none 0 0] 56)) := (Below.refl _ _).alloc (Nat.le_refl _) _
  go_enter Tryz.func52, Tryz.ntmps52
  go_wp2_with fail
  refine (doorFuncs_any _).mono ?_
  rintro e w1 ⟨rfl, hb1⟩
  have hbw1 := hbA.trans (hb1.mono (by simp))
  have z1 := z0.below hb1
  go_wp2_with fail
  refine (innerList_flat b off c [g, h] _ (by intro x hx; simp at hx; rcases hx with rfl | rfl; exact hg; exact hh) (hrow.below hbw1 hb) (Nat.lt_of_lt_of_le hb hbw1.size) (by simp)).mono ?_
  rintro e w2 ⟨rfl, ⟨es, hl⟩, hb2⟩
  obtain ⟨E, G, h1⟩ := hl.two
  have hbw2 := hbw1.trans (hb2.mono hbw1.size)
  have z2 := z1.below hb2
  go_wp2_with fail
  refine (hf _ _ _ _ _ h1).mono ?_
  rintro e w3 ⟨rfl, hb3⟩
  have hbw3 := hbw2.trans (hb3.mono hbw2.size)
  have z3 := z2.below hb3
  go_wp2_with fail
  refine (ho _).mono ?_
  rintro e w4 ⟨rfl, hb4⟩
  have hbw := hbw3.trans (hb4.mono hbw3.size)
  obtain ⟨q, q0, q1, q2, q3, qf⟩ := z3.below hb4
  clear z0 z1 z2 z3 hb1 hb2 hb3 hb4 hbw1 hbw2 hbw3 hbA hl h1 hrow hg hh
  go_wp2
  exact bodyPost_ret (v := (.agg #[.int .i64 res.k, .float .f64 res.x, .string res.s, .slice none 0 0])) (by simp [results, Tryz.results52, go_sem, q, q0, q1, q2, q3, qf]) rfl ⟨rfl, (by (repeat' (first | with_reducible exact Below.refl _ _ | with_reducible refine Below.setCell ?_ ?_ _ | with_reducible refine Below.alloc ?_ ?_ _ | with_reducible refine Below.drew ?_ | with_reducible refine Below.trans ?_ (Below.mono (by assumption) ?_))); all_goals (first | omega | (simp [World.setCell]; done) | (simp [World.setCell]; omega)))⟩

theorem impl_IFNA (A : Option Addr) (c : Nat) (g h : Gl) (f : Value) (res : Gl) (w : World) (hg : g.Ok) (hh : h.Ok) (hsrc : Src w w.heap.size A 4 [g.cells, h.cells])
    (hf : ∀ (W : World) (p : Addr) (LB E G : Nat), List2 W LB E G (.iface 78 g.inner) (.iface 78 h.inner) → Calls Tryz.prog 78 #[.pointer (some p), .pointer (some ⟨LB, 0, none⟩)] W fun e w' => e = .returned f ∧ Below W.heap.size W w')
    (ho : Outs f res) :
    Calls Tryz.prog 21 #[.slice A 2 c] w fun e w' => e = .returned (.agg #[.int .i64 res.k, .float .f64 res.x, .string res.s, .slice none 0 0]) ∧ Below w.heap.size w w' := by
  rcases hsrc with h' | ⟨b, off, rfl, hb, hrow⟩
  · cases h'
  have z0 := Zero4.new w 50
  have hbA : Below w.heap.size w (w.alloc (.cells #[.int .i64 0, .float .f64 0, .string ⟨#[]⟩, .slice none 0 0] 50)) := (Below.refl _ _).alloc (Nat.le_refl _) _
  go_enter Tryz.func21, Tryz.ntmps21
  go_wp2_with fail
  refine (in_flat b off c [g, h] _ (hrow.below hbA hb) (Nat.lt_of_lt_of_le hb hbA.size) (by simp)).mono ?_
  rintro e w1 ⟨v, rfl, hown, hb1⟩
  have hbw1 := hbA.trans (hb1.mono (by simp))
  have z1 := z0.below hb1
  obtain ⟨A2, cap2, rfl, hs2⟩ := hown.src
  rcases hs2 with h' | ⟨b2, off2, rfl, hb2', hrow2⟩
  · cases h'
  go_wp2_with fail
  refine (door_IFNA b2 off2 cap2 g h f res _ hg hh hrow2 hb2' hf ho).mono ?_
  rintro e w2 ⟨rfl, hb2⟩
  have hbw2 := hbw1.trans (hb2.mono hbw1.size)
  have z2 := z1.below hb2
  go_wp2_with fail
  refine (out_flat res.k res.x res.s _).mono ?_
  rintro e w3 ⟨rfl, hb3⟩
  have hbw := hbw2.trans (hb3.mono hbw2.size)
  obtain ⟨q, q0, q1, q2, q3, qf⟩ := z2.below hb3
  clear z0 z1 z2 hb1 hb2 hb3 hbw1 hbw2 hbA hown hrow hrow2 hg hh
  go_wp2
  exact bodyPost_ret (v := (.agg #[.int .i64 res.k, .float .f64 res.x, .string res.s, .slice none 0 0])) (by simp [results, Tryz.results21, go_sem, q, q0, q1, q2, q3, qf]) rfl ⟨rfl, (by (repeat' (first | with_reducible exact Below.refl _ _ | with_reducible refine Below.setCell ?_ ?_ _ | with_reducible refine Below.alloc ?_ ?_ _ | with_reducible refine Below.drew ?_ | with_reducible refine Below.trans ?_ (Below.mono (by assumption) ?_))); all_goals (first | omega | (simp [World.setCell]; done) | (simp [World.setCell]; omega)))⟩

/-- What is chosen: the second value, if the first one is an error that is met. -/
def met_IFNA (x : Fv) : Bool := x.k == 4 && (x.s.toList == [35, 78, 47, 65])

theorem ff_all_IFNA (x y : Fv) (hx : x.Ok) (h6 : x.k ≠ 6) (hy6 : y.k ≠ 6) :
    ∃ f res, Outs f res ∧ (x.k ≠ 0 → res = if met_IFNA x then y.of.back else x.of.back) ∧ ∀ (W : World) (p : Addr) (LB E G : Nat), List2 W LB E G (.iface 78 x.of.inner) (.iface 78 y.of.inner) → Calls Tryz.prog 78 #[.pointer (some p), .pointer (some ⟨LB, 0, none⟩)] W fun e w' => e = .returned f ∧ Below W.heap.size W w' := by
  obtain ⟨x6, s6, b6, e6, t6, hyf⟩ := Gl.form y.of
  obtain ⟨k, n, d, s⟩ := x
  have hk : k = 0 ∨ k = 1 ∨ k = 2 ∨ k = 3 ∨ k = 4 := by
    have h := hx
    simp only [Fv.Ok] at h h6
    omega
  clear hx h6
  rcases hk with rfl | rfl | rfl | rfl | rfl
  · have e : (⟨0, n, d, s⟩ : Fv).of.inner = (.agg #[.string ⟨#[]⟩, .float .f64 0, .string ⟨#[]⟩, .slice none 0 0, .slice none 0 0, .bool false, .string ⟨#[]⟩, .int .u8 6, .pointer none, .pointer none]) := by simp [Fv.of, Gl.inner]
    refine ⟨(.agg #[.string ⟨#[]⟩, .float .f64 0, .string ⟨#[]⟩, .slice none 0 0, .slice none 0 0, .bool false, .string ⟨#[]⟩, .int .u8 6, .pointer none, .pointer none]), ⟨0, 0, ⟨#[]⟩⟩, (fun W => doorArg_empty W), fun h => absurd rfl h, fun W p LB E G h => ?_⟩
    rw [e, hyf] at h
    exact ff_6_IFNA p LB E G x6 s6 b6 e6 t6 W h
  · have e : (⟨1, n, d, s⟩ : Fv).of.inner = (.agg #[.string ⟨#[]⟩, .float .f64 (Fl.clean (Fl.nb n d)), .string ⟨#[]⟩, .slice none 0 0, .slice none 0 0, .bool false, .string ⟨#[]⟩, .int .u8 1, .pointer none, .pointer none]) := by simp [Fv.of, Gl.inner]
    refine ⟨(⟨1, n, d, s⟩ : Fv).of.inner, (⟨1, n, d, s⟩ : Fv).of.back, outs_inner _, fun _ => by simp [met_IFNA], fun W p LB E G h => ?_⟩
    rw [e] at h ⊢
    rw [hyf] at h
    exact ff_1_IFNA p LB E G _ _ _ _ x6 s6 b6 e6 t6 W h
  · have e : (⟨2, n, d, s⟩ : Fv).of.inner = (.agg #[.string ⟨#[]⟩, .float .f64 0, .string s, .slice none 0 0, .slice none 0 0, .bool false, .string ⟨#[]⟩, .int .u8 2, .pointer none, .pointer none]) := by simp [Fv.of, Gl.inner]
    refine ⟨(⟨2, n, d, s⟩ : Fv).of.inner, (⟨2, n, d, s⟩ : Fv).of.back, outs_inner _, fun _ => by simp [met_IFNA], fun W p LB E G h => ?_⟩
    rw [e] at h ⊢
    rw [hyf] at h
    exact ff_2_IFNA p LB E G _ _ _ _ x6 s6 b6 e6 t6 W h
  · have e : (⟨3, n, d, s⟩ : Fv).of.inner = (.agg #[.string ⟨#[]⟩, .float .f64 (floatOfInt .f64 n), .string ⟨#[]⟩, .slice none 0 0, .slice none 0 0, .bool true, .string ⟨#[]⟩, .int .u8 1, .pointer none, .pointer none]) := by simp [Fv.of, Gl.inner]
    refine ⟨(⟨3, n, d, s⟩ : Fv).of.inner, (⟨3, n, d, s⟩ : Fv).of.back, outs_inner _, fun _ => by simp [met_IFNA], fun W p LB E G h => ?_⟩
    rw [e] at h ⊢
    rw [hyf] at h
    exact ff_1_IFNA p LB E G _ _ _ _ x6 s6 b6 e6 t6 W h
  · have e : (⟨4, n, d, s⟩ : Fv).of.inner = (.agg #[.string ⟨#[]⟩, .float .f64 0, .string s, .slice none 0 0, .slice none 0 0, .bool false, .string s, .int .u8 5, .pointer none, .pointer none]) := by simp [Fv.of, Gl.inner]
    cases hs : (s.toList == [35, 78, 47, 65])
    · refine ⟨(⟨4, n, d, s⟩ : Fv).of.inner, (⟨4, n, d, s⟩ : Fv).of.back, outs_inner _, fun _ => by simp [met_IFNA, hs], fun W p LB E G h => ?_⟩
      rw [e] at h ⊢
      rw [hyf] at h
      exact ff_5n_IFNA p LB E G s hs x6 s6 b6 e6 t6 W h
    · refine ⟨y.of.inner, y.of.back, outs_inner _, fun _ => by simp [met_IFNA, hs], fun W p LB E G h => ?_⟩
      rw [e] at h
      rw [hyf] at h ⊢
      exact ff_5_IFNA p LB E G s hs x6 s6 b6 e6 t6 W h


theorem all_IFNA (b : Nat) (x y : Fv) (s t : ByteArray) (w : World) (hx : x.Made s) (hy : y.Made t) (hs : s.size ≤ 1000) (ht : t.size ≤ 1000) (hrow : Row w b 0 5 [x.cells, y.cells]) (hb : b < w.heap.size) :
    Calls Tryz.prog 16 #[.func (.func 21) #[] #[], .string (⟨#[73, 70, 78, 65]⟩ : ByteArray), .slice (some ⟨b, 0, none⟩) 2 2] w fun e w' => e = .returned (.bool true) ∧ Below w.heap.size w w' := by
  have hxs : x.k = 2 → x.s.size ≤ 1000 := fun h => by rw [hx.2.2.1 h]; exact hs
  have hys : y.k = 2 → y.s.size ≤ 1000 := fun h => by rw [hy.2.2.1 h]; exact ht
  have hargs : ∀ W, Below w.heap.size w W → Args W (some ⟨b, 0, none⟩) [⟨x, none, 0, 0⟩, ⟨y, none, 0, 0⟩] := by
    intro W hW
    refine ⟨?_, by simp, .inr ⟨b, 0, rfl, Nat.lt_of_lt_of_le hb hW.size, hrow.below hW hb⟩⟩
    intro v hv
    simp at hv
    rcases hv with rfl | rfl
    · exact fun h2 => ⟨hxs h2, rfl, rfl, rfl⟩
    · exact fun h2 => ⟨hys h2, rfl, rfl, rfl⟩
  have hone : ∀ W, Below w.heap.size w W → One W b 0 x := fun W hW => One.of_row (hrow.below hW hb).fst (Nat.lt_of_lt_of_le hb hW.size)
  have htwo : ∀ W, Below w.heap.size w W → One W b (0 + 5) y := fun W hW => One.of_row (hrow.below hW hb).snd (Nat.lt_of_lt_of_le hb hW.size)
  have hfits : ∀ W, Below w.heap.size w W → FitsIs (⟨#[73, 70, 78, 65]⟩ : ByteArray) (some ⟨b, 0, none⟩) 2 2 ((giv x || x.k == 4) && giv y) W := by
    intro W hW W2 hW2
    have hW' := hW.trans (hW2.mono hW.size)
    refine fits_choices _ _ _ _ _ W2 ?_ ?_ ?_
    · exact fun W3 hW3 => fitsNumbers_IFNA _ [⟨x, none, 0, 0⟩, ⟨y, none, 0, 0⟩] 2 W3 (hargs W3 (hW'.trans (hW3.mono hW'.size)))
    · exact fun W3 _ => fitsTexts_IFNA _ _ _ W3
    · exact fitsTwo_IFNA b 0 2 x y W2 hx.1 hy.1 hxs hys (hone W2 hW') (htwo W2 hW')
  have hok : ∀ u ∈ [x, y], u.Ok := by intro u hu; simp at hu; rcases hu with rfl | rfl; exact hx.1; exact hy.1
  have hd6 : doubt [x, y] = false → x.k ≠ 6 ∧ y.k ≠ 6 := by
    intro h
    simpa [doubt] using h
  by_cases h6 : x.k = 6 ∨ y.k = 6
  · refine agrees_flat 21 (⟨#[73, 70, 78, 65]⟩ : ByteArray) b 0 2 [x, y] (fun u => u.Ok) ⟨0, 0, ⟨#[]⟩⟩ w (fun args W => by kernel_rfl) hok hrow hb (by simp) (fun u hu => hu) ?_ ?_ ?_
    · intro W hW
      exact (call_over (⟨#[73, 70, 78, 65]⟩ : ByteArray) (some ⟨b, 0, none⟩) 2 2 (FlatP fun u => u.Ok) (FlatP.lasts _) W (by
        intro W2 hW2
        have hW' := hW.trans (hW2.mono hW.size)
        have hff := hfits W2 hW'
        have hno : ((giv x || x.k == 4) && giv y) = false := by
          rcases h6 with h6 | h6
          · simp [giv, h6]
          · simp [giv, h6]
        rw [hno] at hff
        refine (over_doubt _ _ _ _ W2 hff).mono ?_
        rintro e w1 ⟨v, rfl, rfl, hb1⟩
        exact ⟨_, rfl, ⟨doubtFv, .inl (.inr (.inr (.inr rfl))), rfl⟩, hb1⟩)).mono fun e w1 h => h.flatP
    · intro hd
      have := hd6 hd
      omega
    · intro u _ hd
      have := hd6 hd
      omega
  · have hx6 : x.k ≠ 6 := fun h => h6 (.inl h)
    have hy6 : y.k ≠ 6 := fun h => h6 (.inr h)
    obtain ⟨f, res, ho, hres, hf⟩ := ff_all_IFNA x y hx.1 hx6 hy6
    have himpl : ∀ W A cap, Src W W.heap.size A 4 (ofs [x, y]) → Calls Tryz.prog 21 #[.slice A 2 cap] W fun e w' => e = .returned (.agg #[.int .i64 res.k, .float .f64 res.x, .string res.s, .slice none 0 0]) ∧ Below W.heap.size W w' :=
      fun W A cap hsrc => impl_IFNA A cap x.of y.of f res W (Fv.of_ok x hx.1 hx6) (Fv.of_ok y hy.1 hy6) hsrc hf ho
    cases hfit : ((giv x || x.k == 4) && giv y)
    · refine agrees_flat 21 (⟨#[73, 70, 78, 65]⟩ : ByteArray) b 0 2 [x, y] (fun u => u = doubtFv) res w (fun args W => by kernel_rfl) hok hrow hb (by simp) (by intro u hu; subst hu; exact .inl (.inr (.inr (.inr rfl)))) ?_ (fun _ => himpl) ?_
      · intro W hW
        exact (call_over (⟨#[73, 70, 78, 65]⟩ : ByteArray) (some ⟨b, 0, none⟩) 2 2 (FlatP fun u => u = doubtFv) (FlatP.lasts _) W (by
          intro W2 hW2
          have hff := hfits W2 (hW.trans (hW2.mono hW.size))
          rw [hfit] at hff
          refine (over_doubt _ _ _ _ W2 hff).mono ?_
          rintro e w1 ⟨v, rfl, rfl, hb1⟩
          exact ⟨_, rfl, ⟨doubtFv, rfl, rfl⟩, hb1⟩)).mono fun e w1 h => h.flatP
      · intro u hu _ hk
        subst hu
        exact absurd rfl hk
    · have hxk : x.k = 1 ∨ x.k = 2 ∨ x.k = 3 ∨ x.k = 4 := by
        simp only [giv, Bool.and_eq_true, Bool.or_eq_true, beq_iff_eq] at hfit
        omega
      have hyk : y.k = 1 ∨ y.k = 2 ∨ y.k = 3 := by
        simp only [giv, Bool.and_eq_true, Bool.or_eq_true, beq_iff_eq] at hfit
        omega
      have hx0 : x.k ≠ 0 := by omega
      have hy0 : y.k ≠ 0 := by omega
      refine agrees_flat 21 (⟨#[73, 70, 78, 65]⟩ : ByteArray) b 0 2 [x, y] (fun u => u = if met_IFNA x then y else x) res w (fun args W => by kernel_rfl) hok hrow hb (by simp) (by intro u hu; subst hu; split; exact hy.1; exact hx.1) ?_ (fun _ => himpl) ?_
      · intro W hW
        exact (call_over (⟨#[73, 70, 78, 65]⟩ : ByteArray) (some ⟨b, 0, none⟩) 2 2 (FlatP fun u => u = if met_IFNA x then y else x) (FlatP.lasts _) W (by
          intro W2 hW2
          have hW' := hW.trans (hW2.mono hW.size)
          have hff := hfits W2 hW'
          rw [hfit] at hff
          refine over_CallLogic _ _ _ _ _ (FlatP.lasts _) W2 hff (Stat_IFNA _ _ _) (Criteria_IFNA _ _ _) (Lookup_IFNA _ _ _) (CallMath_IFNA _ _ _) (CallText_IFNA _ _ _) ?_
          have a6 : (x.k == 6) = false := by simpa using hx6
          have a5 : (x.k == 5) = false := by rw [beq_eq_false_iff_ne]; omega
          have a0 : (x.k == 0) = false := by simpa using hx0
          have ay : (y.k == 0) = false ∧ y.k ≠ 4 ∧ y.k ≠ 5 ∧ y.k ≠ 6 := ⟨by simpa using hy0, by omega, by omega, by omega⟩
          have hrow' := (hrow.below hW' hb).snd
          cases h4 : (x.k == 4)
          · have hm : met_IFNA x = false := by simp [met_IFNA, h4]
            rw [hm]
            exact logic_same_IFNA b 0 x y W2 a6 a5 h4 ay a0 (hone W2 hW') (htwo W2 hW') hrow'
          · cases hsn : (x.s.toList == [35, 78, 47, 65])
            · have hm : met_IFNA x = false := by simp [met_IFNA, h4, hsn]
              rw [hm]
              exact logic_err_IFNA b 0 x y W2 a6 a5 h4 hsn ay a0 (hone W2 hW') (htwo W2 hW') hrow'
            · have hm : met_IFNA x = true := by simp [met_IFNA, h4, hsn]
              rw [hm]
              exact logic_back_IFNA b 0 x y W2 a6 a5 h4 hsn ay a0 (hone W2 hW') (htwo W2 hW') hrow')).mono fun e w1 h => h.flatP
      · intro u hu _ _
        rw [hres hx0]
        subst hu
        split
        · exact back_same y hy.1 hy0 hy6 hy.2.2.2
        · exact back_same x hx.1 hx0 hx6 hx.2.2.2

theorem law_IFNA (a0 a1 n0 n1 : Int) (s t : ByteArray) (w : World) (ha0 : 0 ≤ a0 ∧ a0 ≤ 255) (ha1 : 0 ≤ a1 ∧ a1 ≤ 255) (h0 : -9223372036854775808 ≤ n0 ∧ n0 ≤ 9223372036854775807) (h1 : -9223372036854775808 ≤ n1 ∧ n1 ≤ 9223372036854775807) :
    Calls Tryz.prog 6 #[.int .u8 a0, .int .u8 a1, .int .i64 n0, .int .i64 n1, .string s, .string t] w fun e w' => e = .returned (.bool true) ∧ Below w.heap.size w w' := by
  by_cases hz : 2147483647 < s.size
  · go_enter Tryz.func6, Tryz.ntmps6
    go_wp2
    go_ret
    exact ⟨rfl, (by (repeat' (first | with_reducible exact Below.refl _ _ | with_reducible refine Below.setCell ?_ ?_ _ | with_reducible refine Below.alloc ?_ ?_ _ | with_reducible refine Below.drew ?_ | with_reducible refine Below.trans ?_ (Below.mono (by assumption) ?_))); all_goals (first | omega | (simp [World.setCell]; done) | (simp [World.setCell]; omega)))⟩
  · by_cases hz2 : 2147483647 < t.size
    · go_enter Tryz.func6, Tryz.ntmps6
      go_wp2
      go_ret
      exact ⟨rfl, (by (repeat' (first | with_reducible exact Below.refl _ _ | with_reducible refine Below.setCell ?_ ?_ _ | with_reducible refine Below.alloc ?_ ?_ _ | with_reducible refine Below.drew ?_ | with_reducible refine Below.trans ?_ (Below.mono (by assumption) ?_))); all_goals (first | omega | (simp [World.setCell]; done) | (simp [World.setCell]; omega)))⟩
    · by_cases hs : 1000 < s.size ∨ 1000 < t.size
      · go_enter Tryz.func6, Tryz.ntmps6
        go_wp2_with fail
        refine (short2_no _ s t _ (by simp [go_sem]) (by simp [go_sem]) hs).mono ?_
        rintro e w1 ⟨rfl, rfl⟩
        go_wp2
        go_ret
        exact ⟨rfl, (by (repeat' (first | with_reducible exact Below.refl _ _ | with_reducible refine Below.setCell ?_ ?_ _ | with_reducible refine Below.alloc ?_ ?_ _ | with_reducible refine Below.drew ?_ | with_reducible refine Below.trans ?_ (Below.mono (by assumption) ?_))); all_goals (first | omega | (simp [World.setCell]; done) | (simp [World.setCell]; omega)))⟩
      · have hs' : s.size ≤ 1000 := by omega
        have ht' : t.size ≤ 1000 := by omega
        have HA := Lib.hid (And.intro (And.intro ha0 ha1) (And.intro h0 h1))
        clear ha0 ha1 h0 h1 hs
        go_enter Tryz.func6, Tryz.ntmps6
        go_wp2_with fail
        refine (short2_yes _ s t _ (by simp [go_sem]) (by simp [go_sem]) hs' ht').mono ?_
        rintro e w1 ⟨rfl, rfl⟩
        go_wp2_with fail
        refine (argMade_any a0 n0 s _ HA.out.1.1.1 HA.out.1.1.2 HA.out.2.1.1 HA.out.2.1.2).mono ?_
        rintro e w2 ⟨x, hx, rfl, hb2⟩
        have hbw : Below w.heap.size w w2 := ((Below.refl _ w).alloc (Nat.le_refl _) _).trans (hb2.mono (by simp))
        have HX := Lib.hid hx
        clear hx hb2
        go_wp2_with fail
        refine (argMade_any a1 n1 t _ HA.out.1.2.1 HA.out.1.2.2 HA.out.2.2.1 HA.out.2.2.2).mono ?_
        rintro e w3 ⟨y, hy, rfl, hb3⟩
        have hbw3 : Below w.heap.size w w3 := hbw.trans (hb3.mono hbw.size)
        have HY := Lib.hid hy
        clear hy hb3
        go_wp2_with fail
        refine (all_IFNA _ x y s t _ HX.out HY.out hs' ht' (row_two w3 x y) (by simp)).mono ?_
        rintro e w4 ⟨rfl, hb4⟩
        have hbw4 : Below w.heap.size w w4 := (hbw3.alloc hbw3.size _).trans (hb4.mono (by simp; have := hbw3.size; omega))
        go_wp2
        go_ret
        exact ⟨rfl, hbw4⟩

end Go.Proofs.YtkkmfpjmnebjaaaGreat
