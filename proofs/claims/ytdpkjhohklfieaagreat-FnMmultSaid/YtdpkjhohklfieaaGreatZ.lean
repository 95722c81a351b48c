/- numeric of a text: sure, whatever its letters are. -/
import Derived.Test.YtdpkjhohklfieaaGreatY
set_option linter.unusedSimpArgs false
set_option linter.unusedVariables false
namespace Go.Proofs.YtdpkjhohklfieaaGreat
open Go.RowKit
set_option maxRecDepth 100000

attribute [local go_sem] undef
set_option maxHeartbeats 8000000 in
theorem numeric_text (n d : Int) (s : ByteArray) (w : World) (hs : s.size ≤ 2147483647) :
    Calls Tryz.prog 135 #[(.agg #[.int .i64 2, .int .i64 n, .int .i64 d, .string s, .slice none 0 0])] w (SomeBool w) := by
  go_enter Tryz.func135, Tryz.ntmps135
  go_wp2_with fail
  refine (read_any s _ hs).mono ?_
  rintro e w1 ⟨x, hxo, hxk, rfl, hb1⟩
  obtain ⟨A, hA⟩ : ∃ A, A = w.heap.size := ⟨_, rfl⟩
  obtain ⟨B, hB⟩ : ∃ B, B = w1.heap.size := ⟨_, rfl⟩
  have hz1 := hb1.size
  simp only [World.size_alloc] at hz1
  have a1 : w1.cell? ⟨A, 3, none⟩ = some (.string s) := by rw [hA, hb1.cell (p := ⟨w.heap.size, 3, none⟩) (by simp)]; simp [go_sem]
  have hwlt1 : A < w1.heap.size := by omega
  have hbw1 : Below w.heap.size w w1 := ((Below.refl _ _).alloc (Nat.le_refl _) _).trans (hb1.mono (by simp))
  rw [← hA] at hz1
  rw [← hA]
  clear hb1
  obtain ⟨W, hW⟩ : ∃ W, W = (w1.alloc (.cells #[.int .i64 x.k, .int .i64 x.n, .int .i64 x.d, .string x.s, .slice none 0 0] 27)) := ⟨_, rfl⟩
  have hbW : Below w.heap.size w W := by rw [hW]; exact hbw1.alloc (by omega) _
  have hsW : W.heap.size = B + 1 := by rw [hW, hB]; simp
  have ha : W.cell? ⟨A, 3, none⟩ = some (.string s) := by rw [hW, World.cell?_alloc_lt _ _ _ hwlt1]; exact a1
  have b0 : W.cell? ⟨B, 0, none⟩ = some (.int .i64 x.k) := by rw [hW, hB]; simp [go_sem]
  have b1 : W.cell? ⟨B, 1, none⟩ = some (.int .i64 x.n) := by rw [hW, hB]; simp [go_sem]
  have b2 : W.cell? ⟨B, 2, none⟩ = some (.int .i64 x.d) := by rw [hW, hB]; simp [go_sem]
  have b3 : W.cell? ⟨B, 3, none⟩ = some (.string x.s) := by rw [hW, hB]; simp [go_sem]
  have b4 : W.cell? ⟨B, 4, none⟩ = some (.slice none 0 0) := by rw [hW, hB]; simp [go_sem]
  have HA := Lib.hid hA
  clear hA
  have hAW : A < W.heap.size := by omega
  have hBW : B < W.heap.size := by omega
  have HW := Lib.hid hW
  have HB := Lib.hid hB
  clear a1 hsW
  clear hW hB
  cases hl : wordB s
  · have HL := Lib.hid hl
    clear hl
    cases hw : (x.k == 1 && x.d == 1)
    · have HWH := Lib.hid hw
      clear hw
      go_wp2_with fail
      rw [← HB.out, ← HW.out]
      first
        | (go_region_with (first
            | (go_at_call 153
               refine (letters_any s _ hs).mono ?_
               rw [HL.out]
               rintro e w2 ⟨rfl, hb2⟩
               have ha2 := (hb2.cell (p := ⟨A, 3, none⟩) hAW).trans ha
               have c0 := (hb2.cell (p := ⟨B, 0, none⟩) hBW).trans b0
               have c1 := (hb2.cell (p := ⟨B, 1, none⟩) hBW).trans b1
               have c2 := (hb2.cell (p := ⟨B, 2, none⟩) hBW).trans b2
               have c3 := (hb2.cell (p := ⟨B, 3, none⟩) hBW).trans b3
               have c4 := (hb2.cell (p := ⟨B, 4, none⟩) hBW).trans b4
               have hAW2 := Nat.lt_of_lt_of_le hAW hb2.size
               have hBW2 := Nat.lt_of_lt_of_le hBW hb2.size)
            | (go_at_call 160
               refine (isWhole_any _ _ _ _ _).mono ?_
               rw [HWH.out]
               rintro e w3 ⟨rfl, hb3⟩
               have ha3 := (hb3.cell (p := ⟨A, 3, none⟩) hAW2).trans ha2
               have d0 := (hb3.cell (p := ⟨B, 0, none⟩) hBW2).trans c0
               have d1 := (hb3.cell (p := ⟨B, 1, none⟩) hBW2).trans c1
               have d2 := (hb3.cell (p := ⟨B, 2, none⟩) hBW2).trans c2
               have d3 := (hb3.cell (p := ⟨B, 3, none⟩) hBW2).trans c3
               have d4 := (hb3.cell (p := ⟨B, 4, none⟩) hBW2).trans c4
               have hAW3 := Nat.lt_of_lt_of_le hAW2 hb3.size
               have hBW3 := Nat.lt_of_lt_of_le hBW2 hb3.size)))
        | fail
      all_goals
        go_wp2
        go_ret
        exact ⟨_, rfl, (hbW.drew.trans (hb2.mono (by exact hbW.size))).trans (hb3.mono (by exact Nat.le_trans hbW.size hb2.size))⟩
    · have HWH := Lib.hid hw
      obtain ⟨hk1, hd1⟩ : x.k = 1 ∧ x.d = 1 := by simpa using hw
      clear hw
      have hxb : -99999999999 ≤ x.n ∧ x.n ≤ 99999999999 := by
        rcases hxo with (h | h | h | h) | ⟨_, h1, h2, _⟩ | ⟨h, _⟩
        · omega
        · omega
        · omega
        · omega
        · exact ⟨h1, h2⟩
        · omega
      obtain ⟨xk, xn, xd, xs⟩ := x
      simp only at hk1 hd1 hxb b0 b1 b2 b3 b4 HWH HW
      subst hk1 hd1
      obtain ⟨hx1, hx2⟩ := hxb
      clear hxo hxk
      by_cases hp : (plainB xn).toList = s.toList
      rotate_left
      · have hp2 : ((plainB xn).toList == s.toList) = false := by simpa using hp
        go_wp2_with fail
        rw [← HB.out, ← HW.out]
        first
          | (go_region_with (first
              | (go_at_call 153
                 refine (letters_any s _ hs).mono ?_
                 rw [HL.out]
                 rintro e w2 ⟨rfl, hb2⟩
                 have ha2 := (hb2.cell (p := ⟨A, 3, none⟩) hAW).trans ha
                 have c0 := (hb2.cell (p := ⟨B, 0, none⟩) hBW).trans b0
                 have c1 := (hb2.cell (p := ⟨B, 1, none⟩) hBW).trans b1
                 have c2 := (hb2.cell (p := ⟨B, 2, none⟩) hBW).trans b2
                 have c3 := (hb2.cell (p := ⟨B, 3, none⟩) hBW).trans b3
                 have c4 := (hb2.cell (p := ⟨B, 4, none⟩) hBW).trans b4
                 have hAW2 := Nat.lt_of_lt_of_le hAW hb2.size
                 have hBW2 := Nat.lt_of_lt_of_le hBW hb2.size)
              | (go_at_call 160
                 refine (isWhole_yes xn _ _).mono ?_
                 rintro e w3 ⟨rfl, hb3⟩
                 have ha3 := (hb3.cell (p := ⟨A, 3, none⟩) hAW2).trans ha2
                 have d0 := (hb3.cell (p := ⟨B, 0, none⟩) hBW2).trans c0
                 have d1 := (hb3.cell (p := ⟨B, 1, none⟩) hBW2).trans c1
                 have d2 := (hb3.cell (p := ⟨B, 2, none⟩) hBW2).trans c2
                 have d3 := (hb3.cell (p := ⟨B, 3, none⟩) hBW2).trans c3
                 have d4 := (hb3.cell (p := ⟨B, 4, none⟩) hBW2).trans c4
                 have hAW3 := Nat.lt_of_lt_of_le hAW2 hb3.size
                 have hBW3 := Nat.lt_of_lt_of_le hBW2 hb3.size)
              | (go_at_call 211
                 refine (plain_any xn _ _ hx1 hx2).mono ?_
                 rintro e w4 ⟨rfl, hb4⟩
                 have ha4 := (hb4.cell (p := ⟨A, 3, none⟩) hAW3).trans ha3
                 have e1 := (hb4.cell (p := ⟨B, 1, none⟩) hBW3).trans d1)))
          | fail
        all_goals
          go_wp2
          go_ret
          exact ⟨_, rfl, ((hbW.drew.trans (hb2.mono (by exact hbW.size))).trans (hb3.mono (by exact Nat.le_trans hbW.size hb2.size))).trans (hb4.mono (by exact Nat.le_trans (Nat.le_trans hbW.size hb2.size) hb3.size))⟩
      · have hp2 : ((plainB xn).toList == s.toList) = true := by simpa using hp
        go_wp2_with fail
        rw [← HB.out, ← HW.out]
        first
          | (go_region_with (first
              | (go_at_call 153
                 refine (letters_any s _ hs).mono ?_
                 rw [HL.out]
                 rintro e w2 ⟨rfl, hb2⟩
                 have ha2 := (hb2.cell (p := ⟨A, 3, none⟩) hAW).trans ha
                 have c0 := (hb2.cell (p := ⟨B, 0, none⟩) hBW).trans b0
                 have c1 := (hb2.cell (p := ⟨B, 1, none⟩) hBW).trans b1
                 have c2 := (hb2.cell (p := ⟨B, 2, none⟩) hBW).trans b2
                 have c3 := (hb2.cell (p := ⟨B, 3, none⟩) hBW).trans b3
                 have c4 := (hb2.cell (p := ⟨B, 4, none⟩) hBW).trans b4
                 have hAW2 := Nat.lt_of_lt_of_le hAW hb2.size
                 have hBW2 := Nat.lt_of_lt_of_le hBW hb2.size)
              | (go_at_call 160
                 refine (isWhole_yes xn _ _).mono ?_
                 rintro e w3 ⟨rfl, hb3⟩
                 have ha3 := (hb3.cell (p := ⟨A, 3, none⟩) hAW2).trans ha2
                 have d0 := (hb3.cell (p := ⟨B, 0, none⟩) hBW2).trans c0
                 have d1 := (hb3.cell (p := ⟨B, 1, none⟩) hBW2).trans c1
                 have d2 := (hb3.cell (p := ⟨B, 2, none⟩) hBW2).trans c2
                 have d3 := (hb3.cell (p := ⟨B, 3, none⟩) hBW2).trans c3
                 have d4 := (hb3.cell (p := ⟨B, 4, none⟩) hBW2).trans c4
                 have hAW3 := Nat.lt_of_lt_of_le hAW2 hb3.size
                 have hBW3 := Nat.lt_of_lt_of_le hBW2 hb3.size)
              | (go_at_call 211
                 refine (plain_any xn _ _ hx1 hx2).mono ?_
                 rintro e w4 ⟨rfl, hb4⟩
                 have ha4 := (hb4.cell (p := ⟨A, 3, none⟩) hAW3).trans ha3
                 have e1 := (hb4.cell (p := ⟨B, 1, none⟩) hBW3).trans d1)
              | (go_at_call 212
                 refine (abs_any xn _ hx1 hx2).mono ?_
                 rintro e w5 ⟨rfl, rfl⟩)))
          | fail
        all_goals
          go_wp2
          go_ret
          exact ⟨_, rfl, ((hbW.drew.trans (hb2.mono (by exact hbW.size))).trans (hb3.mono (by exact Nat.le_trans hbW.size hb2.size))).trans (hb4.mono (by exact Nat.le_trans (Nat.le_trans hbW.size hb2.size) hb3.size))⟩
  · have HL := Lib.hid hl
    clear hl
    go_wp2_with fail
    rw [← HB.out, ← HW.out]
    first
      | (go_region_with (first
          | (go_at_call 153
             refine (letters_any s _ hs).mono ?_
             rw [HL.out]
             rintro e w2 ⟨rfl, hb2⟩
             have ha2 := (hb2.cell (p := ⟨A, 3, none⟩) hAW).trans ha)))
      | fail
    all_goals
      go_wp2
      go_ret
      exact ⟨_, rfl, hbW.drew.trans (hb2.mono (by exact hbW.size))⟩

end Go.Proofs.YtdpkjhohklfieaaGreat
