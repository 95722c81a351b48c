/- agrees: a function of the program says of values with rows what the reference says. -/
import Derived.Test.YtdpkjhohklfieaaGreatGo
import Derived.Deep.RegionHeld3
set_option linter.unusedSimpArgs false
set_option linter.unusedVariables false
namespace Go.Proofs.YtdpkjhohklfieaaGreat
open Go.RowKit
set_option maxRecDepth 100000

set_option maxHeartbeats 4000000 in
theorem agrees_args (fn : Nat) (nm : ByteArray) (b off n c : Nat) (G : List Ve) (M : List Mv) (Pw : Mv → Prop) (Pr : Mg → Prop) (w : World)
    (hcf : ∀ (args : Array Value) (W : World), Sem.run Tryz.prog (callFunc fn args) W = .ok (.enter fn args) W)
    (hn : n = M.length) (hargs : ArgsIn w b off G M) (hlen : n ≤ 1000) (h0 : M ≠ []) (htot : (flatAll M).length ≤ 100000) (hwant : ∀ y, Pw y → y.Ok ∧ (flatM y).length ≤ 100000)
    (hcall : ∀ W, Below w.heap.size w W → Calls Tryz.prog 14 #[.string nm, .slice (some ⟨b, off, none⟩) n c] W fun e w' => ∃ (v : Ve) (want : Mv), Pw want ∧ e = .returned (.agg #[.int .i64 v.x.k, .int .i64 v.x.n, .int .i64 v.x.d, .string v.x.s, .slice v.A v.m v.c]) ∧ VIs w' (New W.heap.size w') v want ∧ Below W.heap.size W w')
    (hfn : doubt (flatAll M) = false → ∀ W g cap G', ArgsOut W g G' (M.map Mv.of) → Calls Tryz.prog fn #[.slice (some ⟨g, 0, none⟩) n cap] W fun e w' => ∃ (v : Vg) (r : Mg), Pr r ∧ e = .returned (.agg #[.int .i64 v.g.k, .float .f64 v.g.x, .string v.g.s, .slice v.A v.m v.c]) ∧ GIs w' (New W.heap.size w') v r ∧ Below W.heap.size W w')
    (hsame : doubt (flatAll M) = false → ∀ W (v : Vg) (u : Ve) (r : Mg) (m : Mv), Pr r → Pw m → doubt (flatM m) = false → GIs W (· < W.heap.size) v r → VIs W (· < W.heap.size) u m →
      Calls Tryz.prog 12 #[(.agg #[.int .i64 v.g.k, .float .f64 v.g.x, .string v.g.s, .slice v.A v.m v.c]), (.agg #[.int .i64 u.x.k, .int .i64 u.x.n, .int .i64 u.x.d, .string u.x.s, .slice u.A u.m u.c])] W fun e w' => e = .returned (.bool true) ∧ Below W.heap.size W w') :
    Calls Tryz.prog 5 #[.func (.func fn) #[] #[], .string nm, .slice (some ⟨b, off, none⟩) n c] w fun e w' => e = .returned (.bool true) ∧ Below w.heap.size w w' := by
  have HC := Lib.hid hcall
  have HF := Lib.hid hfn
  have HN := Lib.hid hn
  have HA := Lib.hid hargs
  have HM := Lib.hid h0
  have HT := Lib.hid htot
  have HS := Lib.hid hsame
  clear hcall hfn hn hargs h0 htot hsame
  go_enter Tryz.func5, Tryz.ntmps5
  go_wp2_with fail
  refine (HC.out _ (Below.refl _ _)).mono ?_
  rintro e w1 ⟨u, want, hpw, rfl, hu, hb1⟩
  have HW := Lib.hid (And.intro hpw (hwant want hpw))
  have HU := Lib.hid hu
  clear hpw hwant hu
  have hz1 := hb1.size
  go_wp2_with (go_at_call 15; refine (table_any _ _ _ _).mono ?_; rintro e w2 ⟨rfl, hb2⟩; obtain ⟨hc2, hf2, hz2⟩ := bcell hb2; try simp only [World.size_alloc, size_setCell] at hz2)
  obtain ⟨WB, hWB⟩ : ∃ WB, WB = w1.heap.size := ⟨_, rfl⟩
  have k0 : w2.cell? ⟨WB, 0, none⟩ = some (.int .i64 u.x.k) := by rw [hWB, hc2 _ _ (by simp; omega)]; simp [go_sem]
  have k1 : w2.cell? ⟨WB, 1, none⟩ = some (.int .i64 u.x.n) := by rw [hWB, hc2 _ _ (by simp; omega)]; simp [go_sem]
  have k2 : w2.cell? ⟨WB, 2, none⟩ = some (.int .i64 u.x.d) := by rw [hWB, hc2 _ _ (by simp; omega)]; simp [go_sem]
  have k3 : w2.cell? ⟨WB, 3, none⟩ = some (.string u.x.s) := by rw [hWB, hc2 _ _ (by simp; omega)]; simp [go_sem]
  have k4 : w2.cell? ⟨WB, 4, none⟩ = some (.slice u.A u.m u.c) := by rw [hWB, hc2 _ _ (by simp; omega)]; simp [go_sem]
  have t0 : w2.cell? ⟨WB + 1, 0, none⟩ = some (.slice (some ⟨b, off, none⟩) n c) := by rw [hWB, hc2 _ _ (by simp)]; simp [go_sem]
  have hb12 : Below w1.heap.size w1 w2 := (((Below.refl _ _).alloc (Nat.le_refl _) (.cells #[.int .i64 u.x.k, .int .i64 u.x.n, .int .i64 u.x.d, .string u.x.s, .slice u.A u.m u.c] 27)).alloc (by simp) (.cells #[.slice (some ⟨b, off, none⟩) n c] 29)).trans (hb2.mono (by simp; omega))
  have hbw2 : Below w.heap.size w w2 := hb1.trans (hb12.mono hz1)
  have ha2 := HA.out.below hbw2
  have hu2 := KV.old HU.out hb12
  have HU2 := Lib.hid hu2
  have HA2 := Lib.hid ha2
  have hWlt : WB < w2.heap.size := by rw [hWB]; omega
  have hWlt1 : WB + 1 < w2.heap.size := by rw [hWB]; omega
  rw [← hWB]
  clear hc2 hf2 hb2 hb1 hWB hz1 hz2 hu2 ha2 HU HA hb12 HC
  clear w1
  have HD : Hid (Calls Tryz.prog 11 #[(.agg #[.int .i64 5, .int .i64 0, .int .i64 0, .string ⟨#[]⟩, .slice (some ⟨WB + 1, 0, none⟩) 1 1])] w2 fun e w' => e = .returned (.bool (doubt (flatAll M))) ∧ Below w2.heap.size w2 w') := by
    obtain ⟨hb, hr, hall, hok⟩ := HA2.out
    obtain ⟨els, e1, e2, e3, e4⟩ := leads_all 0 hall hok
    have hl := leads_table w2 w2.heap.size (WB + 1) b off c 1 els (by rw [e2, ← HN.out]; exact t0) hWlt1 hb (by rw [e1]; exact hr) (by rw [e2, ← HN.out]; exact hlen) 2 e4
    rw [e3] at hl
    exact Lib.hid (doubtful_any 3 w2.heap.size 5 0 0 ⟨#[]⟩ (some ⟨WB + 1, 0, none⟩) 1 1 (flatAll M) w2 hl (Nat.le_refl _) HT.out)
  clear t0
  cases hdl : doubt (flatAll M)
  · rw [hdl] at HD
    have HDL := Lib.hid hdl
    clear hdl
    go_wp2_with fail
    refine HD.out.mono ?_
    rintro e w3 ⟨rfl, hb3⟩
    have hz3 := hb3.size
    have HA3 := Lib.hid (HA2.out.below hb3)
    have HU3 := Lib.hid (KV.on HU2.out hb3)
    have hbw3 := hbw2.trans (hb3.mono hbw2.size)
    replace k0 := (hb3.cell (p := ⟨WB, 0, none⟩) (by show WB < _; omega)).trans k0
    replace k1 := (hb3.cell (p := ⟨WB, 1, none⟩) (by show WB < _; omega)).trans k1
    replace k2 := (hb3.cell (p := ⟨WB, 2, none⟩) (by show WB < _; omega)).trans k2
    replace k3 := (hb3.cell (p := ⟨WB, 3, none⟩) (by show WB < _; omega)).trans k3
    replace k4 := (hb3.cell (p := ⟨WB, 4, none⟩) (by show WB < _; omega)).trans k4
    have hWlt3 : WB < w3.heap.size := by omega
    clear hWlt hWlt1 HD hb3 HA2 HU2 hbw2 hz3
    clear w2
    have HE : Hid (Calls Tryz.prog 11 #[(.agg #[.int .i64 u.x.k, .int .i64 u.x.n, .int .i64 u.x.d, .string u.x.s, .slice u.A u.m u.c])] w3 fun e w' => e = .returned (.bool (doubt (flatM want))) ∧ Below w3.heap.size w3 w') :=
      Lib.hid (doubtful_any 2 w3.heap.size u.x.k u.x.n u.x.d u.x.s u.A u.m u.c (flatM want) w3 (leads_of 0 HU3.out HW.out.2.1) (Nat.le_refl _) HW.out.2.2)
    cases hdw : doubt (flatM want)
    · rw [hdw] at HE
      have HW6 := Lib.hid hdw
      clear hdw
      go_wp2_with fail
      refine HE.out.mono ?_
      rintro e w4 ⟨rfl, hb4⟩
      have hz4 := hb4.size
      have HA4 := Lib.hid (HA3.out.below hb4)
      have HU4 := Lib.hid (KV.on HU3.out hb4)
      have hbw4 := hbw3.trans (hb4.mono hbw3.size)
      replace k0 := (hb4.cell (p := ⟨WB, 0, none⟩) (by show WB < _; omega)).trans k0
      replace k1 := (hb4.cell (p := ⟨WB, 1, none⟩) (by show WB < _; omega)).trans k1
      replace k2 := (hb4.cell (p := ⟨WB, 2, none⟩) (by show WB < _; omega)).trans k2
      replace k3 := (hb4.cell (p := ⟨WB, 3, none⟩) (by show WB < _; omega)).trans k3
      replace k4 := (hb4.cell (p := ⟨WB, 4, none⟩) (by show WB < _; omega)).trans k4
      have hWB4 : WB < w4.heap.size := by omega
      clear HE hb4 HA3 HU3 hbw3 hz4 hWlt3
      clear w3
      go_wp2_with fail
      go_region_held3 (fun w' => w'.cell? ⟨WB, 0, none⟩ = some (.int .i64 u.x.k) ∧ w'.cell? ⟨WB, 1, none⟩ = some (.int .i64 u.x.n) ∧ w'.cell? ⟨WB, 2, none⟩ = some (.int .i64 u.x.d) ∧ w'.cell? ⟨WB, 3, none⟩ = some (.string u.x.s) ∧ w'.cell? ⟨WB, 4, none⟩ = some (.slice u.A u.m u.c))
        (first | go_keep | exact ⟨k0, k1, k2, k3, k4⟩ | exact ⟨q0, q1, q2, q3, q4⟩ | exact ⟨p0, p1, p2, p3, p4⟩ | exact ⟨r0, r1, r2, r3, r4⟩)
        (first
          | (go_at_call 16
             refine (all_any b off n c G M _ HN.out (by exact HA4.out) hlen HM.out).mono ?_
             rintro e w5 ⟨g5, cap5, G5, rfl, ha5, hb5⟩
             have hz5 := hb5.size
             have HA5 := Lib.hid ha5
             have HU5 := Lib.hid (KV.on (by exact HU4.out) hb5)
             clear ha5
             have q0 := (hb5.cell (p := ⟨WB, 0, none⟩) hWB4).trans k0
             have q1 := (hb5.cell (p := ⟨WB, 1, none⟩) hWB4).trans k1
             have q2 := (hb5.cell (p := ⟨WB, 2, none⟩) hWB4).trans k2
             have q3 := (hb5.cell (p := ⟨WB, 3, none⟩) hWB4).trans k3
             have q4 := (hb5.cell (p := ⟨WB, 4, none⟩) hWB4).trans k4)
          | (refine (HF.out HDL.out _ g5 cap5 G5 (by exact HA5.out)).mono ?_
             rintro e w6 ⟨v, r, hpr, rfl, hv, hb6⟩
             have hz6 := hb6.size
             have HV6 := Lib.hid (And.intro hpr hv)
             have HU6 := Lib.hid (KV.on HU5.out hb6)
             clear hpr hv
             have hWB5 : WB < w5.heap.size := Nat.lt_of_lt_of_le hWB4 hz5
             have p0 := (hb6.cell (p := ⟨WB, 0, none⟩) hWB5).trans q0
             have p1 := (hb6.cell (p := ⟨WB, 1, none⟩) hWB5).trans q1
             have p2 := (hb6.cell (p := ⟨WB, 2, none⟩) hWB5).trans q2
             have p3 := (hb6.cell (p := ⟨WB, 3, none⟩) hWB5).trans q3
             have p4 := (hb6.cell (p := ⟨WB, 4, none⟩) hWB5).trans q4)
          | (go_at_call 12
             refine (HS.out HDL.out _ v u r want HV6.out.1 HW.out.1 HW6.out (by exact KG.more HV6.out.2 fun k hk => hk.2) (by exact HU6.out)).mono ?_
             rintro e w7 ⟨rfl, hb7⟩
             have hWB6 : WB < w6.heap.size := Nat.lt_of_lt_of_le (Nat.lt_of_lt_of_le hWB4 hz5) hz6
             have r0 := (hb7.cell (p := ⟨WB, 0, none⟩) hWB6).trans p0
             have r1 := (hb7.cell (p := ⟨WB, 1, none⟩) hWB6).trans p1
             have r2 := (hb7.cell (p := ⟨WB, 2, none⟩) hWB6).trans p2
             have r3 := (hb7.cell (p := ⟨WB, 3, none⟩) hWB6).trans p3
             have r4 := (hb7.cell (p := ⟨WB, 4, none⟩) hWB6).trans p4))
      go_wp2
      go_ret
      refine ⟨rfl, ?_⟩
      exact ((hbw4.drew.trans (hb5.mono (by exact hbw4.size))).trans (hb6.mono (by exact Nat.le_trans hbw4.size hz5))).trans (hb7.mono (by exact Nat.le_trans (Nat.le_trans hbw4.size hz5) hz6))
    · rw [hdw] at HE
      clear hdw
      go_wp2_with fail
      refine HE.out.mono ?_
      rintro e w4 ⟨rfl, hb4⟩
      go_wp2
      go_ret
      exact ⟨rfl, hbw3.trans (hb4.mono hbw3.size)⟩
  · rw [hdl] at HD
    clear hdl
    go_wp2_with fail
    refine HD.out.mono ?_
    rintro e w3 ⟨rfl, hb3⟩
    go_wp2
    go_ret
    exact ⟨rfl, hbw2.trans (hb3.mono hbw2.size)⟩

end Go.Proofs.YtdpkjhohklfieaaGreat
