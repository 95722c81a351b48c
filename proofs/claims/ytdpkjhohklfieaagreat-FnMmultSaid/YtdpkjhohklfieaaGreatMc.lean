/- MMULT: XGd, XMd, XMr, XRt, XMk, XMx. Put together by merge.py. -/
import Derived.Test.YtdpkjhohklfieaaGreatGa
import Derived.Deep.RegionHeld3
import Derived.Test.YtdpkjhohklfieaaGreatMt
import Derived.Test.YtdpkjhohklfieaaGreatMb
import Derived.Test.YtdpkjhohklfieaaGreatMa
import Derived.Test.YtdpkjhohklfieaaGreatRo
set_option linter.unusedSimpArgs false
set_option linter.unusedVariables false
namespace Go.Proofs.YtdpkjhohklfieaaGreat

/- agrees: a function of the program says of values with rows what the reference says. -/
section
open Go.RowKit
set_option maxRecDepth 100000

set_option maxHeartbeats 4000000 in
theorem agrees_det (fn : Nat) (nm : ByteArray) (b off n c : Nat) (G : List Ve) (M : List Mv) (Pw : Mv → Prop) (Pr : Mg → Prop) (w : World)
    (hcf : ∀ (args : Array Value) (W : World), Sem.run Tryz.prog (callFunc fn args) W = .ok (.enter fn args) W)
    (hn : n = M.length) (hargs : ArgsIn w b off G M) (hlen : n ≤ 1000) (h0 : M ≠ []) (htot : (flatAll M).length ≤ 100000) (hwant : ∀ y, Pw y → y.Ok ∧ (flatM y).length ≤ 100000)
    (hcall : ∀ W, Below w.heap.size w W → Calls Tryz.prog 14 #[.string nm, .slice (some ⟨b, off, none⟩) n c] W fun e w' => ∃ (v : Ve) (want : Mv), Pw want ∧ e = .returned (.agg #[.int .i64 v.x.k, .int .i64 v.x.n, .int .i64 v.x.d, .string v.x.s, .slice v.A v.m v.c]) ∧ VIs w' (New W.heap.size w') v want ∧ Below W.heap.size W w')
    (hfn : doubt (flatAll M) = false → (∃ m, Pw m ∧ doubt (flatM m) = false) → ∀ W g cap G', ArgsOut W g G' (M.map Mv.of) → Calls Tryz.prog fn #[.slice (some ⟨g, 0, none⟩) n cap] W fun e w' => ∃ (v : Vg) (r : Mg), Pr r ∧ e = .returned (.agg #[.int .i64 v.g.k, .float .f64 v.g.x, .string v.g.s, .slice v.A v.m v.c]) ∧ GIs w' (New W.heap.size w') v r ∧ Below W.heap.size W w')
    (hsame : doubt (flatAll M) = false → ∀ W (v : Vg) (u : Ve) (r : Mg) (m : Mv), Pr r → Pw m → doubt (flatM m) = false → GIs W (· < W.heap.size) v r → VIs W (· < W.heap.size) u m →
      Calls Tryz.prog 12 #[(.agg #[.int .i64 v.g.k, .float .f64 v.g.x, .string v.g.s, .slice v.A v.m v.c]), (.agg #[.int .i64 u.x.k, .int .i64 u.x.n, .int .i64 u.x.d, .string u.x.s, .slice u.A u.m u.c])] W fun e w' => e = .returned (.bool true) ∧ Below W.heap.size W w') :
    Calls Tryz.prog 5 #[.func (.func fn) #[] #[], .string nm, .slice (some ⟨b, off, none⟩) n c] w fun e w' => e = .returned (.bool true) ∧ Below w.heap.size w w' := by
  have HC := Lib.hid hcall
  have HF := Lib.hid hfn
  have HN := Lib.hid hn
  have HA := Lib.hid hargs
  have HM := Lib.hid h0
  have HT := Lib.hid htot
  have HS := Lib.hid hsame
  clear hcall hfn hn hargs h0 htot hsame
  go_enter Tryz.func5, Tryz.ntmps5
  go_wp2_with fail
  refine (HC.out _ (Below.refl _ _)).mono ?_
  rintro e w1 ⟨u, want, hpw, rfl, hu, hb1⟩
  have HW := Lib.hid (And.intro hpw (hwant want hpw))
  have HU := Lib.hid hu
  clear hpw hwant hu
  have hz1 := hb1.size
  go_wp2_with (go_at_call 15; refine (table_any _ _ _ _).mono ?_; rintro e w2 ⟨rfl, hb2⟩; obtain ⟨hc2, hf2, hz2⟩ := bcell hb2; try simp only [World.size_alloc, size_setCell] at hz2)
  obtain ⟨WB, hWB⟩ : ∃ WB, WB = w1.heap.size := ⟨_, rfl⟩
  have k0 : w2.cell? ⟨WB, 0, none⟩ = some (.int .i64 u.x.k) := by rw [hWB, hc2 _ _ (by simp; omega)]; simp [go_sem]
  have k1 : w2.cell? ⟨WB, 1, none⟩ = some (.int .i64 u.x.n) := by rw [hWB, hc2 _ _ (by simp; omega)]; simp [go_sem]
  have k2 : w2.cell? ⟨WB, 2, none⟩ = some (.int .i64 u.x.d) := by rw [hWB, hc2 _ _ (by simp; omega)]; simp [go_sem]
  have k3 : w2.cell? ⟨WB, 3, none⟩ = some (.string u.x.s) := by rw [hWB, hc2 _ _ (by simp; omega)]; simp [go_sem]
  have k4 : w2.cell? ⟨WB, 4, none⟩ = some (.slice u.A u.m u.c) := by rw [hWB, hc2 _ _ (by simp; omega)]; simp [go_sem]
  have t0 : w2.cell? ⟨WB + 1, 0, none⟩ = some (.slice (some ⟨b, off, none⟩) n c) := by rw [hWB, hc2 _ _ (by simp)]; simp [go_sem]
  have hb12 : Below w1.heap.size w1 w2 := (((Below.refl _ _).alloc (Nat.le_refl _) (.cells #[.int .i64 u.x.k, .int .i64 u.x.n, .int .i64 u.x.d, .string u.x.s, .slice u.A u.m u.c] 27)).alloc (by simp) (.cells #[.slice (some ⟨b, off, none⟩) n c] 29)).trans (hb2.mono (by simp; omega))
  have hbw2 : Below w.heap.size w w2 := hb1.trans (hb12.mono hz1)
  have ha2 := HA.out.below hbw2
  have hu2 := KV.old HU.out hb12
  have HU2 := Lib.hid hu2
  have HA2 := Lib.hid ha2
  have hWlt : WB < w2.heap.size := by rw [hWB]; omega
  have hWlt1 : WB + 1 < w2.heap.size := by rw [hWB]; omega
  rw [← hWB]
  clear hc2 hf2 hb2 hb1 hWB hz1 hz2 hu2 ha2 HU HA hb12 HC
  clear w1
  have HD : Hid (Calls Tryz.prog 11 #[(.agg #[.int .i64 5, .int .i64 0, .int .i64 0, .string ⟨#[]⟩, .slice (some ⟨WB + 1, 0, none⟩) 1 1])] w2 fun e w' => e = .returned (.bool (doubt (flatAll M))) ∧ Below w2.heap.size w2 w') := by
    obtain ⟨hb, hr, hall, hok⟩ := HA2.out
    obtain ⟨els, e1, e2, e3, e4⟩ := leads_all 0 hall hok
    have hl := leads_table w2 w2.heap.size (WB + 1) b off c 1 els (by rw [e2, ← HN.out]; exact t0) hWlt1 hb (by rw [e1]; exact hr) (by rw [e2, ← HN.out]; exact hlen) 2 e4
    rw [e3] at hl
    exact Lib.hid (doubtful_any 3 w2.heap.size 5 0 0 ⟨#[]⟩ (some ⟨WB + 1, 0, none⟩) 1 1 (flatAll M) w2 hl (Nat.le_refl _) HT.out)
  clear t0
  cases hdl : doubt (flatAll M)
  · rw [hdl] at HD
    have HDL := Lib.hid hdl
    clear hdl
    go_wp2_with fail
    refine HD.out.mono ?_
    rintro e w3 ⟨rfl, hb3⟩
    have hz3 := hb3.size
    have HA3 := Lib.hid (HA2.out.below hb3)
    have HU3 := Lib.hid (KV.on HU2.out hb3)
    have hbw3 := hbw2.trans (hb3.mono hbw2.size)
    replace k0 := (hb3.cell (p := ⟨WB, 0, none⟩) (by show WB < _; omega)).trans k0
    replace k1 := (hb3.cell (p := ⟨WB, 1, none⟩) (by show WB < _; omega)).trans k1
    replace k2 := (hb3.cell (p := ⟨WB, 2, none⟩) (by show WB < _; omega)).trans k2
    replace k3 := (hb3.cell (p := ⟨WB, 3, none⟩) (by show WB < _; omega)).trans k3
    replace k4 := (hb3.cell (p := ⟨WB, 4, none⟩) (by show WB < _; omega)).trans k4
    have hWlt3 : WB < w3.heap.size := by omega
    clear hWlt hWlt1 HD hb3 HA2 HU2 hbw2 hz3
    clear w2
    have HE : Hid (Calls Tryz.prog 11 #[(.agg #[.int .i64 u.x.k, .int .i64 u.x.n, .int .i64 u.x.d, .string u.x.s, .slice u.A u.m u.c])] w3 fun e w' => e = .returned (.bool (doubt (flatM want))) ∧ Below w3.heap.size w3 w') :=
      Lib.hid (doubtful_any 2 w3.heap.size u.x.k u.x.n u.x.d u.x.s u.A u.m u.c (flatM want) w3 (leads_of 0 HU3.out HW.out.2.1) (Nat.le_refl _) HW.out.2.2)
    cases hdw : doubt (flatM want)
    · rw [hdw] at HE
      have HW6 := Lib.hid hdw
      clear hdw
      go_wp2_with fail
      refine HE.out.mono ?_
      rintro e w4 ⟨rfl, hb4⟩
      have hz4 := hb4.size
      have HA4 := Lib.hid (HA3.out.below hb4)
      have HU4 := Lib.hid (KV.on HU3.out hb4)
      have hbw4 := hbw3.trans (hb4.mono hbw3.size)
      replace k0 := (hb4.cell (p := ⟨WB, 0, none⟩) (by show WB < _; omega)).trans k0
      replace k1 := (hb4.cell (p := ⟨WB, 1, none⟩) (by show WB < _; omega)).trans k1
      replace k2 := (hb4.cell (p := ⟨WB, 2, none⟩) (by show WB < _; omega)).trans k2
      replace k3 := (hb4.cell (p := ⟨WB, 3, none⟩) (by show WB < _; omega)).trans k3
      replace k4 := (hb4.cell (p := ⟨WB, 4, none⟩) (by show WB < _; omega)).trans k4
      have hWB4 : WB < w4.heap.size := by omega
      clear HE hb4 HA3 HU3 hbw3 hz4 hWlt3
      clear w3
      go_wp2_with fail
      go_region_held3 (fun w' => w'.cell? ⟨WB, 0, none⟩ = some (.int .i64 u.x.k) ∧ w'.cell? ⟨WB, 1, none⟩ = some (.int .i64 u.x.n) ∧ w'.cell? ⟨WB, 2, none⟩ = some (.int .i64 u.x.d) ∧ w'.cell? ⟨WB, 3, none⟩ = some (.string u.x.s) ∧ w'.cell? ⟨WB, 4, none⟩ = some (.slice u.A u.m u.c))
        (first | go_keep | exact ⟨k0, k1, k2, k3, k4⟩ | exact ⟨q0, q1, q2, q3, q4⟩ | exact ⟨p0, p1, p2, p3, p4⟩ | exact ⟨r0, r1, r2, r3, r4⟩)
        (first
          | (go_at_call 16
             refine (all_any b off n c G M _ HN.out (by exact HA4.out) hlen HM.out).mono ?_
             rintro e w5 ⟨g5, cap5, G5, rfl, ha5, hb5⟩
             have hz5 := hb5.size
             have HA5 := Lib.hid ha5
             have HU5 := Lib.hid (KV.on (by exact HU4.out) hb5)
             clear ha5
             have q0 := (hb5.cell (p := ⟨WB, 0, none⟩) hWB4).trans k0
             have q1 := (hb5.cell (p := ⟨WB, 1, none⟩) hWB4).trans k1
             have q2 := (hb5.cell (p := ⟨WB, 2, none⟩) hWB4).trans k2
             have q3 := (hb5.cell (p := ⟨WB, 3, none⟩) hWB4).trans k3
             have q4 := (hb5.cell (p := ⟨WB, 4, none⟩) hWB4).trans k4)
          | (refine (HF.out HDL.out ⟨want, HW.out.1, HW6.out⟩ _ g5 cap5 G5 (by exact HA5.out)).mono ?_
             rintro e w6 ⟨v, r, hpr, rfl, hv, hb6⟩
             have hz6 := hb6.size
             have HV6 := Lib.hid (And.intro hpr hv)
             have HU6 := Lib.hid (KV.on HU5.out hb6)
             clear hpr hv
             have hWB5 : WB < w5.heap.size := Nat.lt_of_lt_of_le hWB4 hz5
             have p0 := (hb6.cell (p := ⟨WB, 0, none⟩) hWB5).trans q0
             have p1 := (hb6.cell (p := ⟨WB, 1, none⟩) hWB5).trans q1
             have p2 := (hb6.cell (p := ⟨WB, 2, none⟩) hWB5).trans q2
             have p3 := (hb6.cell (p := ⟨WB, 3, none⟩) hWB5).trans q3
             have p4 := (hb6.cell (p := ⟨WB, 4, none⟩) hWB5).trans q4)
          | (go_at_call 12
             refine (HS.out HDL.out _ v u r want HV6.out.1 HW.out.1 HW6.out (by exact KG.more HV6.out.2 fun k hk => hk.2) (by exact HU6.out)).mono ?_
             rintro e w7 ⟨rfl, hb7⟩
             have hWB6 : WB < w6.heap.size := Nat.lt_of_lt_of_le (Nat.lt_of_lt_of_le hWB4 hz5) hz6
             have r0 := (hb7.cell (p := ⟨WB, 0, none⟩) hWB6).trans p0
             have r1 := (hb7.cell (p := ⟨WB, 1, none⟩) hWB6).trans p1
             have r2 := (hb7.cell (p := ⟨WB, 2, none⟩) hWB6).trans p2
             have r3 := (hb7.cell (p := ⟨WB, 3, none⟩) hWB6).trans p3
             have r4 := (hb7.cell (p := ⟨WB, 4, none⟩) hWB6).trans p4))
      go_wp2
      go_ret
      refine ⟨rfl, ?_⟩
      exact ((hbw4.drew.trans (hb5.mono (by exact hbw4.size))).trans (hb6.mono (by exact Nat.le_trans hbw4.size hz5))).trans (hb7.mono (by exact Nat.le_trans (Nat.le_trans hbw4.size hz5) hz6))
    · rw [hdw] at HE
      clear hdw
      go_wp2_with fail
      refine HE.out.mono ?_
      rintro e w4 ⟨rfl, hb4⟩
      go_wp2
      go_ret
      exact ⟨rfl, hbw3.trans (hb4.mono hbw3.size)⟩
  · rw [hdl] at HD
    clear hdl
    go_wp2_with fail
    refine HD.out.mono ?_
    rintro e w3 ⟨rfl, hb3⟩
    go_wp2
    go_ret
    exact ⟨rfl, hbw2.trans (hb3.mono hbw2.size)⟩
end

/- MMULT: the frame of the reference; the doors, where the answer is a matrix and where it is an error. -/
section
open Go.RowKit
set_option maxRecDepth 100000
set_option maxHeartbeats 1000000

def ErrJ (w : World) (e : Ending) (w' : World) : Prop := e = .returned (.agg #[.int .i64 4, .float .f64 0, .string (⟨#[35, 86, 65, 76, 85, 69, 33]⟩ : ByteArray), .slice none 0 0]) ∧ Below w.heap.size w w'
theorem fitsNumbers_MMULT (A : Option Addr) (L : List Ve) (c : Nat) (w : World) (hL : Args w A L) :
    Calls Tryz.prog 60 #[.string (⟨#[77, 77, 85, 76, 84]⟩ : ByteArray), .slice A L.length c] w fun e w' => e = .returned (.tuple #[.bool false, .bool false]) ∧ Below w.heap.size w w' := by
  have HE := numeric_all A L c w hL
  go_enter Tryz.func60, Tryz.ntmps60
  go_wp2_with fail
  refine HE.mono ?_
  rintro e w1 ⟨r, rfl, hb1⟩
  go_wp2
  go_ret2
  exact ⟨rfl, hb1⟩

theorem fitsTexts_MMULT (A : Option Addr) (n c : Nat) (w : World) :
    Calls Tryz.prog 61 #[.string (⟨#[77, 77, 85, 76, 84]⟩ : ByteArray), .slice A n c] w fun e w' => e = .returned (.tuple #[.bool false, .bool false]) ∧ Below w.heap.size w w' := by
  go_enter Tryz.func61, Tryz.ntmps61
  go_wp2
  go_ret2
  exact ⟨rfl, (by (repeat' (first | with_reducible exact Below.refl _ _ | with_reducible refine Below.setCell ?_ ?_ _ | with_reducible refine Below.alloc ?_ ?_ _ | with_reducible refine Below.drew ?_ | with_reducible refine Below.trans ?_ (Below.mono (by assumption) ?_))); all_goals (first | omega | (simp [World.setCell]; done) | (simp [World.setCell]; omega)))⟩

theorem fitsChoices_MMULT (A : Option Addr) (n c : Nat) (w : World) :
    Calls Tryz.prog 62 #[.string (⟨#[77, 77, 85, 76, 84]⟩ : ByteArray), .slice A n c] w fun e w' => e = .returned (.tuple #[.bool false, .bool false]) ∧ Below w.heap.size w w' := by
  go_enter Tryz.func62, Tryz.ntmps62
  go_wp2
  go_ret2
  exact ⟨rfl, (by (repeat' (first | with_reducible exact Below.refl _ _ | with_reducible refine Below.setCell ?_ ?_ _ | with_reducible refine Below.alloc ?_ ?_ _ | with_reducible refine Below.drew ?_ | with_reducible refine Below.trans ?_ (Below.mono (by assumption) ?_))); all_goals (first | omega | (simp [World.setCell]; done) | (simp [World.setCell]; omega)))⟩

theorem others_MMULT (w : World) : Calls Tryz.prog 63 #[.string (⟨#[77, 77, 85, 76, 84]⟩ : ByteArray)] w fun e w' => e = .returned (.bool true) ∧ Below w.heap.size w w' := by
  go_enter Tryz.func63, Tryz.ntmps63
  go_wp2
  go_ret
  exact ⟨rfl, (by (repeat' (first | with_reducible exact Below.refl _ _ | with_reducible refine Below.setCell ?_ ?_ _ | with_reducible refine Below.alloc ?_ ?_ _ | with_reducible refine Below.drew ?_ | with_reducible refine Below.trans ?_ (Below.mono (by assumption) ?_))); all_goals (first | omega | (simp [World.setCell]; done) | (simp [World.setCell]; omega)))⟩

theorem fits_MMULT (b off n c : Nat) (G : List Ve) (M : List Mv) (w : World) (hn : n = M.length) (h : ArgsIn w b off G M) (ht : ∀ m ∈ M, m.x.k = 2 → m.x.s.size ≤ 2147483647) (hl : M.length ≤ 1000) : FitsIs (⟨#[77, 77, 85, 76, 84]⟩ : ByteArray) (some ⟨b, off, none⟩) n c true w := by
  intro W hW
  refine fits_others _ _ _ _ W (fun W3 h3 => ?_) (fun W3 _ => fitsTexts_MMULT _ _ _ W3) (fun W3 _ => fitsChoices_MMULT _ _ _ W3) (fun W3 => others_MMULT W3)
  have hA := args_of (h.below (hW.trans (h3.mono hW.size))) ht hl
  rw [hn, ← h.2.2.1.1]
  exact fitsNumbers_MMULT _ G c W3 hA

theorem here_MMULT (b off n c : Nat) (Pm : Mv → Prop) (w0 : World) (h : ∀ W, Below w0.heap.size w0 W → Calls Tryz.prog 81 #[.slice (some ⟨b, off, none⟩) n c] W (ManyPost Pm W)) :
    Here 39 (⟨#[77, 77, 85, 76, 84]⟩ : ByteArray) (some ⟨b, off, none⟩) n c (ManyP Pm) w0 := by
  intro w hbw
  have HH := Lib.hid h
  have Z0 := Lib.hid (Zero5.new w)
  have HLB := Lib.hid (show w.heap.size ≤ (w.alloc (.cells #[.int .i64 0, .int .i64 0, .int .i64 0, .string ⟨#[]⟩, .slice none 0 0] 27)).heap.size by simp)
  have HLT := Lib.hid (show w.heap.size < (w.alloc (.cells #[.int .i64 0, .int .i64 0, .int .i64 0, .string ⟨#[]⟩, .slice none 0 0] 27)).heap.size by simp)
  clear h
  go_enter Tryz.func39, Tryz.ntmps39
  go_wp2_with fail
  refine (HH.out _ (hbw.alloc hbw.size _)).mono ?_
  rintro e w1 ⟨v, y, hy, rfl, hv, hb1⟩
  have HV := Lib.hid (show ManyP Pm (w.alloc (.cells #[.int .i64 0, .int .i64 0, .int .i64 0, .string ⟨#[]⟩, .slice none 0 0] 27)).heap.size v w1 from ⟨y, hy, hv⟩)
  have HB1 := Lib.hid (((Below.refl w.heap.size w).alloc (Nat.le_refl _) (.cells #[.int .i64 0, .int .i64 0, .int .i64 0, .string ⟨#[]⟩, .slice none 0 0] 27)).trans (hb1.mono HLB.out))
  obtain ⟨q, q0, q1, q2, q3, q4, qf⟩ := Z0.out.below hb1
  clear hy hv hb1
  go_wp2
  exact bodyPost_ret (v := (.tuple #[(.agg #[.int .i64 v.x.k, .int .i64 v.x.n, .int .i64 v.x.d, .string v.x.s, .slice v.A v.m v.c]), .bool true])) (by simp [results, Tryz.results39, go_sem, q, q0, q1, q2, q3, q4, qf]) rfl ⟨v, rfl, ManyP.lasts Pm _ _ v w1 _ HV.out HLB.out ((((((Upon.refl _ _).setCell _ HLT.out _).setCell _ HLT.out _).setCell _ HLT.out _).setCell _ HLT.out _).setCell _ HLT.out _), below5 HB1.out (Nat.le_refl _)⟩

theorem door_MMULT (b n c : Nat) (G : List Vg) (M : List Mg) (rows : List (List Gl)) (w : World) (hn : n = M.length) (ha : ArgsOut w b G M) (hlen : n ≤ 1000) (hok : ∀ m ∈ M, m.Ok) (hl : rows.length ≤ 1000) (hC : ∀ r ∈ rows, r.length ≤ 1000)
    (hf : ∀ (W : World) (p : Addr) (LB : Nat), ListOut W LB M → Calls Tryz.prog 29 #[.pointer (some p), .pointer (some ⟨LB, 0, none⟩)] W (MatPost rows W)) :
    Calls Tryz.prog 18 #[.slice (some ⟨b, 0, none⟩) n c] w (MatI rows w) := by
  have z0 := Zero4.new w 49
  have hbA : Below w.heap.size w (w.alloc (.cells #[.int .i64 0, .float .f64 0, .string ⟨#[]⟩, .slice none 0 0] 49)) := (Below.refl _ _).alloc (Nat.le_refl _) _
  have HA := Lib.hid (And.intro ha hok)
  have HF := Lib.hid hf
  have HN := Lib.hid (And.intro hn (And.intro hl hC))
  have HBA := Lib.hid hbA
  clear ha hok hf hn hl hC hbA
  go_enter Tryz.func18, Tryz.ntmps18
  go_wp2_with fail
  refine (doorFuncs_any _).mono ?_
  rintro e w1 ⟨rfl, hb1⟩
  have hbw1 := HBA.out.trans (hb1.mono HBA.out.size)
  have z1 := z0.below hb1
  have hlt0 : w.heap.size < w1.heap.size := by have := hb1.size; simp at this; omega
  have ha1 : ArgsOut w1 b G M := ⟨Nat.lt_of_lt_of_le HA.out.1.1 hbw1.size, HA.out.1.2.1.below hbw1 HA.out.1.1, (HA.out.1.2.2.keep (Keep.below hbw1 fun _ h => h)).more fun q hq => Nat.lt_of_lt_of_le hq hbw1.size⟩
  have HA1 := Lib.hid ha1
  clear ha1
  go_wp2_with fail
  refine (innerList_any b n c G M w1 HN.out.1 HA1.out hlen HA.out.2).mono ?_
  rintro e w2 ⟨rfl, hlo, hb2⟩
  have hbw2 := hbw1.trans (hb2.mono hbw1.size)
  have z2 := z1.below hb2
  have HL := Lib.hid hlo
  have hlt2 := Nat.lt_of_lt_of_le hlt0 hb2.size
  clear hlo
  go_wp2_with fail
  refine (HF.out _ _ _ HL.out).mono ?_
  rintro e w3 ⟨g, cap, rfl, hr3, hb3⟩
  have hbw3 := hbw2.trans (hb3.mono hbw2.size)
  have z3 := z2.below hb3
  have hlt3 := Nat.lt_of_lt_of_le hlt2 hb3.size
  have HD := Lib.hid (doorArg_mat (some ⟨g, 0, none⟩) rows.length cap 0 0 rows w3 (hr3.more fun q hq => hq.2) HN.out.2.1 HN.out.2.2 (.pointer none) (.pointer none))
  clear hr3
  unfold FMx
  go_wp2_with fail
  refine HD.out.mono ?_
  rintro e w4 ⟨g4, cap4, rfl, hr4, hb4⟩
  have hbw := hbw3.trans (hb4.mono hbw3.size)
  obtain ⟨q, q0, q1, q2, q3, qf⟩ := z3.below hb4
  have HR4 := Lib.hid (And.intro hr4 hbw)
  clear z0 z1 z2 z3 hb1 hb2 hb3 hb4 hbw1 hbw2 hbw3 hr4 hbw hlt0 hlt2 HD
  go_wp2
  exact bodyPost_ret (v := (.agg #[.int .i64 5, .float .f64 0, .string ⟨#[]⟩, .slice (some ⟨g4, 0, none⟩) rows.length cap4])) (by simp [results, Tryz.results18, go_sem, q, q0, q1, q2, q3, qf]) rfl ⟨g4, cap4, rfl, ((HR4.out.1.keep (((((Keep.refl _ _).set (by intro q hq; have h := hq.1; show q ≠ w.heap.size; omega) _).set (by intro q hq; have h := hq.1; show q ≠ w.heap.size; omega) _).set (by intro q hq; have h := hq.1; show q ≠ w.heap.size; omega) _).set (by intro q hq; have h := hq.1; show q ≠ w.heap.size; omega) _)).more (by intro q hq; have h := hq.1; exact ⟨by omega, by simp only [size_setCell]; exact hq.2⟩)), ((((HR4.out.2.setCell (Nat.le_refl _) _).setCell (Nat.le_refl _) _).setCell (Nat.le_refl _) _).setCell (Nat.le_refl _) _)⟩

theorem impl_MMULT (b n c : Nat) (G : List Vg) (M : List Mg) (rows : List (List Gl)) (w : World) (hn : n = M.length) (ha : ArgsOut w b G M) (hlen : n ≤ 1000) (h0 : M ≠ []) (hok : ∀ m ∈ M, m.Ok) (hl : rows.length ≤ 1000) (hC : ∀ r ∈ rows, r.length ≤ 1000)
    (hf : ∀ (W : World) (p : Addr) (LB : Nat), ListOut W LB M → Calls Tryz.prog 29 #[.pointer (some p), .pointer (some ⟨LB, 0, none⟩)] W (MatPost rows W)) :
    Calls Tryz.prog 6 #[.slice (some ⟨b, 0, none⟩) n c] w (MatI rows w) := by
  have z0 := Zero4.new w 39
  have hbA : Below w.heap.size w (w.alloc (.cells #[.int .i64 0, .float .f64 0, .string ⟨#[]⟩, .slice none 0 0] 39)) := (Below.refl _ _).alloc (Nat.le_refl _) _
  have ha1 : ArgsOut (w.alloc (.cells #[.int .i64 0, .float .f64 0, .string ⟨#[]⟩, .slice none 0 0] 39)) b G M := ⟨Nat.lt_of_lt_of_le ha.1 hbA.size, ha.2.1.below hbA ha.1, (ha.2.2.keep (Keep.below hbA fun _ h => h)).more fun q hq => Nat.lt_of_lt_of_le hq hbA.size⟩
  have HA := Lib.hid (And.intro ha1 hok)
  have HF := Lib.hid hf
  have HN := Lib.hid (And.intro hn (And.intro h0 (And.intro hl hC)))
  have HBA := Lib.hid hbA
  clear ha hok hf hn ha1 h0 hbA hl hC
  go_enter Tryz.func6, Tryz.ntmps6
  go_wp2_with fail
  refine (in_any b n c G M _ HN.out.1 HA.out.1 hlen HN.out.2.1 (fun m hm => ⟨(HA.out.2 m hm).2.1, fun r hr => ((HA.out.2 m hm).2.2 r hr).1⟩)).mono ?_
  rintro e w1 ⟨g, cap, G', rfl, ha2, hb1⟩
  have hbw1 := HBA.out.trans (hb1.mono HBA.out.size)
  have z1 := z0.below hb1
  have hlt0 : w.heap.size < w1.heap.size := by have := hb1.size; simp at this; omega
  have HA2 := Lib.hid ha2
  clear ha2
  go_wp2_with fail
  refine (door_MMULT g n cap G' M rows _ HN.out.1 HA2.out hlen HA.out.2 HN.out.2.2.1 HN.out.2.2.2 HF.out).mono ?_
  rintro e w2 ⟨g2, cap2, rfl, hr2, hb2⟩
  have hbw2 := hbw1.trans (hb2.mono hbw1.size)
  have z2 := z1.below hb2
  have hlt2 := Nat.lt_of_lt_of_le hlt0 hb2.size
  have HD := Lib.hid (out_mat (some ⟨g2, 0, none⟩) rows.length cap2 (drm rows) w2 (by rw [drs_drm]; exact hr2.more fun q hq => hq.2) HN.out.2.2.1 (by intro r hr; obtain ⟨r0, hr0, rfl⟩ := List.mem_map.1 hr; rw [List.length_map]; exact HN.out.2.2.2 r0 hr0))
  clear hr2
  go_wp2_with fail
  refine HD.out.mono ?_
  rintro e w3 ⟨g3, cap3, rfl, hr3, hb3⟩
  have hbw := hbw2.trans (hb3.mono hbw2.size)
  obtain ⟨q, q0, q1, q2, q3, qf⟩ := z2.below hb3
  rw [drs_drm] at hr3
  have HR3 := Lib.hid (And.intro hr3 hbw)
  clear z0 z1 z2 hb1 hb2 hb3 hbw1 hbw2 hr3 hbw hlt0 HD
  go_wp2
  exact bodyPost_ret (v := (.agg #[.int .i64 5, .float .f64 0, .string ⟨#[]⟩, .slice (some ⟨g3, 0, none⟩) rows.length cap3])) (by simp [results, Tryz.results6, go_sem, q, q0, q1, q2, q3, qf]) rfl ⟨g3, cap3, rfl, ((HR3.out.1.keep (((((Keep.refl _ _).set (by intro q hq; have h := hq.1; show q ≠ w.heap.size; omega) _).set (by intro q hq; have h := hq.1; show q ≠ w.heap.size; omega) _).set (by intro q hq; have h := hq.1; show q ≠ w.heap.size; omega) _).set (by intro q hq; have h := hq.1; show q ≠ w.heap.size; omega) _)).more (by intro q hq; have h := hq.1; exact ⟨by omega, by simp only [size_setCell]; exact hq.2⟩)), ((((HR3.out.2.setCell (Nat.le_refl _) _).setCell (Nat.le_refl _) _).setCell (Nat.le_refl _) _).setCell (Nat.le_refl _) _)⟩

theorem doorE_MMULT (b n c : Nat) (G : List Vg) (M : List Mg) (w : World) (hn : n = M.length) (ha : ArgsOut w b G M) (hlen : n ≤ 1000) (hok : ∀ m ∈ M, m.Ok)
    (hf : ∀ (W : World) (p : Addr) (LB : Nat), ListOut W LB M → Calls Tryz.prog 29 #[.pointer (some p), .pointer (some ⟨LB, 0, none⟩)] W (ErrF W)) :
    Calls Tryz.prog 18 #[.slice (some ⟨b, 0, none⟩) n c] w (ErrJ w) := by
  have z0 := Zero4.new w 49
  have hbA : Below w.heap.size w (w.alloc (.cells #[.int .i64 0, .float .f64 0, .string ⟨#[]⟩, .slice none 0 0] 49)) := (Below.refl _ _).alloc (Nat.le_refl _) _
  have HA := Lib.hid (And.intro ha hok)
  have HF := Lib.hid hf
  have HN := Lib.hid hn
  clear ha hok hf hn
  go_enter Tryz.func18, Tryz.ntmps18
  go_wp2_with fail
  refine (doorFuncs_any _).mono ?_
  rintro e w1 ⟨rfl, hb1⟩
  have hbw1 := hbA.trans (hb1.mono (by simp))
  have z1 := z0.below hb1
  have ha1 : ArgsOut w1 b G M := ⟨Nat.lt_of_lt_of_le HA.out.1.1 hbw1.size, HA.out.1.2.1.below hbw1 HA.out.1.1, (HA.out.1.2.2.keep (Keep.below hbw1 fun _ h => h)).more fun q hq => Nat.lt_of_lt_of_le hq hbw1.size⟩
  have HA1 := Lib.hid ha1
  clear ha1
  go_wp2_with fail
  refine (innerList_any b n c G M w1 HN.out HA1.out hlen HA.out.2).mono ?_
  rintro e w2 ⟨rfl, hl, hb2⟩
  have hbw2 := hbw1.trans (hb2.mono hbw1.size)
  have z2 := z1.below hb2
  have HL := Lib.hid hl
  clear hl
  go_wp2_with fail
  refine (HF.out _ _ _ HL.out).mono ?_
  rintro e w3 ⟨rfl, hb3⟩
  have hbw3 := hbw2.trans (hb3.mono hbw2.size)
  have z3 := z2.below hb3
  go_wp2_with fail
  refine (doorArg_err _ _ _).mono ?_
  rintro e w4 ⟨rfl, hb4⟩
  have hbw := hbw3.trans (hb4.mono hbw3.size)
  obtain ⟨q, q0, q1, q2, q3, qf⟩ := z3.below hb4
  clear z0 z1 z2 z3 hb1 hb2 hb3 hb4 hbw1 hbw2 hbw3 hbA
  go_wp2
  exact bodyPost_ret (v := (.agg #[.int .i64 4, .float .f64 0, .string (⟨#[35, 86, 65, 76, 85, 69, 33]⟩ : ByteArray), .slice none 0 0])) (by simp [results, Tryz.results18, go_sem, q, q0, q1, q2, q3, qf]) rfl ⟨rfl, (by (repeat' (first | with_reducible exact Below.refl _ _ | with_reducible refine Below.setCell ?_ ?_ _ | with_reducible refine Below.alloc ?_ ?_ _ | with_reducible refine Below.drew ?_ | with_reducible refine Below.trans ?_ (Below.mono (by assumption) ?_))); all_goals (first | omega | (simp [World.setCell]; done) | (simp [World.setCell]; omega)))⟩

theorem implE_MMULT (b n c : Nat) (G : List Vg) (M : List Mg) (w : World) (hn : n = M.length) (ha : ArgsOut w b G M) (hlen : n ≤ 1000) (h0 : M ≠ []) (hok : ∀ m ∈ M, m.Ok)
    (hf : ∀ (W : World) (p : Addr) (LB : Nat), ListOut W LB M → Calls Tryz.prog 29 #[.pointer (some p), .pointer (some ⟨LB, 0, none⟩)] W (ErrF W)) :
    Calls Tryz.prog 6 #[.slice (some ⟨b, 0, none⟩) n c] w (ErrJ w) := by
  have z0 := Zero4.new w 39
  have hbA : Below w.heap.size w (w.alloc (.cells #[.int .i64 0, .float .f64 0, .string ⟨#[]⟩, .slice none 0 0] 39)) := (Below.refl _ _).alloc (Nat.le_refl _) _
  have ha1 : ArgsOut (w.alloc (.cells #[.int .i64 0, .float .f64 0, .string ⟨#[]⟩, .slice none 0 0] 39)) b G M := ⟨Nat.lt_of_lt_of_le ha.1 hbA.size, ha.2.1.below hbA ha.1, (ha.2.2.keep (Keep.below hbA fun _ h => h)).more fun q hq => Nat.lt_of_lt_of_le hq hbA.size⟩
  have HA := Lib.hid (And.intro ha1 hok)
  have HF := Lib.hid hf
  have HN := Lib.hid (And.intro hn h0)
  clear ha hok hf hn ha1 h0
  go_enter Tryz.func6, Tryz.ntmps6
  go_wp2_with fail
  refine (in_any b n c G M _ HN.out.1 HA.out.1 hlen HN.out.2 (fun m hm => ⟨(HA.out.2 m hm).2.1, fun r hr => ((HA.out.2 m hm).2.2 r hr).1⟩)).mono ?_
  rintro e w1 ⟨g, cap, G', rfl, ha2, hb1⟩
  have hbw1 := hbA.trans (hb1.mono (by simp))
  have z1 := z0.below hb1
  have HA2 := Lib.hid ha2
  clear ha2
  go_wp2_with fail
  refine (doorE_MMULT g n cap G' M _ HN.out.1 HA2.out hlen HA.out.2 HF.out).mono ?_
  rintro e w2 ⟨rfl, hb2⟩
  have hbw2 := hbw1.trans (hb2.mono hbw1.size)
  have z2 := z1.below hb2
  go_wp2_with fail
  refine (out_flat 4 0 (⟨#[35, 86, 65, 76, 85, 69, 33]⟩ : ByteArray) _).mono ?_
  rintro e w3 ⟨rfl, hb3⟩
  have hbw := hbw2.trans (hb3.mono hbw2.size)
  obtain ⟨q, q0, q1, q2, q3, qf⟩ := z2.below hb3
  clear z0 z1 z2 hb1 hb2 hb3 hbw1 hbw2 hbA
  go_wp2
  exact bodyPost_ret (v := (.agg #[.int .i64 4, .float .f64 0, .string (⟨#[35, 86, 65, 76, 85, 69, 33]⟩ : ByteArray), .slice none 0 0])) (by simp [results, Tryz.results6, go_sem, q, q0, q1, q2, q3, qf]) rfl ⟨rfl, (by (repeat' (first | with_reducible exact Below.refl _ _ | with_reducible refine Below.setCell ?_ ?_ _ | with_reducible refine Below.alloc ?_ ?_ _ | with_reducible refine Below.drew ?_ | with_reducible refine Below.trans ?_ (Below.mono (by assumption) ?_))); all_goals (first | omega | (simp [World.setCell]; done) | (simp [World.setCell]; omega)))⟩
end

/- The reference's product of matrices. -/
section
open Go.RowKit
set_option maxRecDepth 100000
set_option maxHeartbeats 1000000

/-- Two ranges as the arguments of a function. -/
theorem two_ranges {w : World} {b off : Nat} {v1 v2 : Ve} {m1 m2 : Mv} (h : ArgsIn w b off [v1, v2] [m1, m2]) : b < w.heap.size ∧
    (w.cell? ⟨b, off, none⟩ = some (.int .i64 v1.x.k) ∧ w.cell? ⟨b, off + 1, none⟩ = some (.int .i64 v1.x.n) ∧ w.cell? ⟨b, off + 2, none⟩ = some (.int .i64 v1.x.d) ∧ w.cell? ⟨b, off + 3, none⟩ = some (.string v1.x.s) ∧ w.cell? ⟨b, off + 4, none⟩ = some (.slice v1.A v1.m v1.c)) ∧
    (w.cell? ⟨b, off + 5, none⟩ = some (.int .i64 v2.x.k) ∧ w.cell? ⟨b, off + 5 + 1, none⟩ = some (.int .i64 v2.x.n) ∧ w.cell? ⟨b, off + 5 + 2, none⟩ = some (.int .i64 v2.x.d) ∧ w.cell? ⟨b, off + 5 + 3, none⟩ = some (.string v2.x.s) ∧ w.cell? ⟨b, off + 5 + 4, none⟩ = some (.slice v2.A v2.m v2.c)) ∧
    (VIs w (· < w.heap.size) v1 m1 ∧ m1.Ok) ∧ VIs w (· < w.heap.size) v2 m2 ∧ m2.Ok := by
  obtain ⟨hb, hr, hall, hok⟩ := h
  have hR := (hr 0 v1.cells rfl).2
  have hS := (hr 1 v2.cells rfl).2
  refine ⟨hb, ⟨by simpa using hR 0 _ rfl, by simpa using hR 1 _ rfl, by simpa using hR 2 _ rfl, by simpa using hR 3 _ rfl, by simpa using hR 4 _ rfl⟩, ⟨by simpa using hS 0 _ rfl, by simpa using hS 1 _ rfl, by simpa using hS 2 _ rfl, by simpa using hS 3 _ rfl, by simpa using hS 4 _ rfl⟩, ⟨hall.2 0 v1 m1 rfl rfl, hok m1 (List.mem_cons_self ..)⟩, hall.2 1 v2 m2 rfl rfl, hok m2 (List.mem_cons_of_mem _ (List.mem_cons_self ..))⟩

theorem vis_rows {w : World} {S : Nat → Prop} {A : Option Addr} {m c : Nat} {rows : List (List Fv)} (h : VIs w S ⟨⟨5, 0, 0, ⟨#[]⟩⟩, A, m, c⟩ (mat rows)) : RowsIs 5 w S A m (rows.map fvs) := by
  obtain ⟨_, ⟨hk, _⟩ | ⟨_, hh⟩⟩ := h
  · exact absurd rfl hk
  · exact hh

/-- The numbers of a matrix of whole numbers. -/
def numsI (rows : List (List Fv)) : List (List Int) := rows.map fun r => r.map Fv.n
/-- What the reference may answer. -/
def MmW (rows1 rows2 : List (List Fv)) (R1 C1 R2 C2 : Nat) (y : Mv) : Prop :=
  y = ⟨doubtFv, []⟩ ∨ (kindsB [1] rows1.flatten = true ∧ kindsB [1] rows2.flatten = true ∧ ((C1 ≠ R2 ∧ y = ⟨⟨4, 0, 0, (⟨#[35, 86, 65, 76, 85, 69, 33]⟩ : ByteArray)⟩, []⟩) ∨ (C1 = R2 ∧ y = mat (grid (prodV (numsI rows1) (numsI rows2) C1) R1 C2))))
theorem kinds_nums {rows : List (List Fv)} (hn : ∀ r ∈ rows, ∀ x ∈ r, x.NumC) (hk : kindsB [1] rows.flatten = true) : ∀ r ∈ rows, ∀ x ∈ r, x = ⟨1, x.n, 1, ⟨#[]⟩⟩ ∧ x.n.natAbs ≤ 99999999999 := by
  intro r hr x hx
  have h1 : x.k = 1 := by
    unfold kindsB at hk
    have := List.all_eq_true.1 hk x (List.mem_flatten.2 ⟨r, hr, hx⟩)
    simpa using this
  rcases hn r hr x hx with rfl | ⟨o, rfl, ho⟩
  · exact absurd h1 (by decide)
  · cases o with
    | none => exact absurd h1 (by decide)
    | some n => exact ⟨rfl, ho⟩

section
variable {P : Program} {l : List Oper} {Q : Exit → Act → World → Prop} {md : Region.Mode} {S : World → Prop}
theorem takeL {i : Nat} {oi : Oper} {v : Value} {fuel : Nat} {listed : Array Bool} {a : Act} {w : World} (hi : l[i]? = some oi)
    (hs : Region.noSelect l.toArray = true) (hf : Region.free md l.toArray listed i = true) (hr : (Region.ready md l.toArray listed).contains i = true)
    (hQ : ∀ c a w, Q (.panic c) (a.put oi.dst v) w → Q (.panic c) a w) (hy : YieldsIf P l.toArray S oi v a) (hS : S w)
    (h : wpAnyH P md l.toArray Q S fuel (listed.setIfInBounds i true) (a.put oi.dst v) w) : wpAnyH P md l.toArray Q S (fuel + 1) listed a w :=
  wpAnyH_take (by rw [List.getElem?_toArray]; exact hi) hs hf hr hQ hy hS h
theorem consL {fuel : Nat} {listed : Array Bool} {a : Act} {w : World} {i : Nat} {o : Oper} {rs : List Nat} (ho : l[i]? = some o)
    (h : ∀ K' : Act → World → Prop, Shut (∀ a w, S w → (S w → wpAnyH P md l.toArray Q S fuel (listed.setIfInBounds i true) a w) → K' a w) → if Region.wanted o (yielded l.toArray a.tmps) = true then Oper.wp P o a w K' Q else K' (a.put o.dst undef) w)
    (hs : AllReadyH P md l.toArray Q S fuel listed a w rs) : AllReadyH P md l.toArray Q S fuel listed a w (i :: rs) :=
  AllReadyH.cons (by rw [List.getElem?_toArray]; exact ho) h hs
end

def vcs (x : Fv) : Array Value := #[.int .i64 x.k, .int .i64 x.n, .int .i64 x.d, .string x.s, .slice none 0 0]
theorem Blk.put5 {w : World} {g : Nat} {t : TypeId} {x : Fv} (h : Blk w g t (vcs x)) (y : Fv) :
    Blk (((((w.setCell ⟨g, 0, none⟩ (.int .i64 y.k)).setCell ⟨g, 1, none⟩ (.int .i64 y.n)).setCell ⟨g, 2, none⟩ (.int .i64 y.d)).setCell ⟨g, 3, none⟩ (.string y.s)).setCell ⟨g, 4, none⟩ (.slice none 0 0)) g t (vcs y) :=
  ((((h.put 0 (.int .i64 y.k)).put 1 (.int .i64 y.n)).put 2 (.int .i64 y.d)).put 3 (.string y.s)).put 4 (.slice none 0 0)
/-- The cells that one product of two elements reads. -/
def MmC (b off ba offa b5 off5 bb offb b6 off6 k x q m1 c1 C1 c2 C2 c5 c6 : Nat) (n1 n2 : Int) (w : World) : Prop :=
  (w.cell? ⟨b, off + 4, none⟩ = some (.slice (some ⟨ba, offa, none⟩) m1 c1) ∧ w.cell? ⟨ba, offa + k, none⟩ = some (.slice (some ⟨b5, off5, none⟩) C1 c5) ∧
    w.cell? ⟨b5, off5 + x * 5, none⟩ = some (.int .i64 1) ∧ w.cell? ⟨b5, off5 + x * 5 + 1, none⟩ = some (.int .i64 n1) ∧ w.cell? ⟨b5, off5 + x * 5 + 2, none⟩ = some (.int .i64 1) ∧ w.cell? ⟨b5, off5 + x * 5 + 3, none⟩ = some (.string ⟨#[]⟩) ∧ w.cell? ⟨b5, off5 + x * 5 + 4, none⟩ = some (.slice none 0 0)) ∧
  (w.cell? ⟨b, off + 5 + 4, none⟩ = some (.slice (some ⟨bb, offb, none⟩) C1 c2) ∧ w.cell? ⟨bb, offb + x, none⟩ = some (.slice (some ⟨b6, off6, none⟩) C2 c6) ∧
    w.cell? ⟨b6, off6 + q * 5, none⟩ = some (.int .i64 1) ∧ w.cell? ⟨b6, off6 + q * 5 + 1, none⟩ = some (.int .i64 n2) ∧ w.cell? ⟨b6, off6 + q * 5 + 2, none⟩ = some (.int .i64 1) ∧ w.cell? ⟨b6, off6 + q * 5 + 3, none⟩ = some (.string ⟨#[]⟩) ∧ w.cell? ⟨b6, off6 + q * 5 + 4, none⟩ = some (.slice none 0 0))
theorem MmC.keep {b off ba offa b5 off5 bb offb b6 off6 k x q m1 c1 C1 c2 C2 c5 c6 : Nat} {n1 n2 : Int} {w X : World} (h : MmC b off ba offa b5 off5 bb offb b6 off6 k x q m1 c1 C1 c2 C2 c5 c6 n1 n2 w) (hb : Below w.heap.size w X) :
    MmC b off ba offa b5 off5 bb offb b6 off6 k x q m1 c1 C1 c2 C2 c5 c6 n1 n2 X := by
  obtain ⟨⟨a0, a1, a2, a3, a4, a5, a6⟩, b0, b1, b2, b3, b4, b5, b6⟩ := h
  have hh : ∀ {p : Addr} {v : Value}, w.cell? p = some v → X.cell? p = some v := fun {p} {v} hc => (hb.cell (World.block_lt_of_cell? w p hc)).trans hc
  exact ⟨⟨hh a0, hh a1, hh a2, hh a3, hh a4, hh a5, hh a6⟩, hh b0, hh b1, hh b2, hh b3, hh b4, hh b5, hh b6⟩
def PrO (W wr : World) (y : Value) (f : Nat → Nat → Fv) (p k : Nat) : Prop := ∃ H : List Value, Below W.heap.size W wr ∧ (KRow 5).Many wr W.heap.size 29 1 y H ((grid f k p).map fvs)
def PrI (wo wq : World) (z : Value) (f : Nat → Fv) (q : Nat) : Prop := Below wo.heap.size wo wq ∧ Owns wq wo.heap.size 27 5 z (fvs ((List.range q).map f))
def SumAt (wi wx : World) (x : Fv) : Prop := Below wi.heap.size wi wx ∧ Blk wx wi.heap.size 27 (vcs x)
theorem hrsM {w w' : World} {B : Nat} {A : Option Addr} {m : Nat} {rows : List (List (List Value))} (h : RowsIs 5 w (New B w) A m rows) (hb : Below w.heap.size w w') : RowsIs 5 w' (New B w') A m rows :=
  (h.keep (Keep.below hb fun _ hq => hq.2)).more fun q hq => ⟨hq.1, Nat.lt_of_lt_of_le hq.2 hb.size⟩
theorem infoVs3 : ((Tryz.prog.info? 29)).map (fun i => (i.zero, i.size, i.bytes)) = some (some (.slice none 0 0), 1, 24) := by kernel_rfl
theorem fvs_len (r : List Fv) : (fvs r).length = r.length := by unfold fvs; rw [List.length_map]

set_option maxHeartbeats 32000000 in
theorem mmult_any (b off c m1 c1 m2 c2 : Nat) (A1 A2 : Option Addr) (r1 r2 : List Fv) (rs1 rs2 : List (List Fv)) (R1 C1 R2 C2 : Nat) (w : World)
    (h : ArgsIn w b off [⟨⟨5, 0, 0, ⟨#[]⟩⟩, A1, m1, c1⟩, ⟨⟨5, 0, 0, ⟨#[]⟩⟩, A2, m2, c2⟩] [mat (r1 :: rs1), mat (r2 :: rs2)]) (hR1 : (r1 :: rs1).length = R1) (hR2 : (r2 :: rs2).length = R2) (hl1 : R1 ≤ 120) (hl2 : R2 ≤ 120)
    (hC1 : ∀ r ∈ r1 :: rs1, r.length = C1) (hC2 : ∀ r ∈ r2 :: rs2, r.length = C2) (hc1 : C1 ≤ 6) (hc2 : C2 ≤ 6) (hc10 : 0 < C1) (hc20 : 0 < C2) (hn1 : ∀ r ∈ r1 :: rs1, ∀ x ∈ r, x.NumC) (hn2 : ∀ r ∈ r2 :: rs2, ∀ x ∈ r, x.NumC) :
    Calls Tryz.prog 81 #[.slice (some ⟨b, off, none⟩) 2 c] w (ManyPost (MmW (r1 :: rs1) (r2 :: rs2) R1 C1 R2 C2) w) := by
  have Z0 := Lib.hid (Zero5.new w)
  have hbA : Below w.heap.size w (w.alloc (.cells #[.int .i64 0, .int .i64 0, .int .i64 0, .string ⟨#[]⟩, .slice none 0 0] 27)) := (Below.refl _ _).alloc (Nat.le_refl _) _
  have ha := h.below hbA
  obtain ⟨hblt, ⟨a0, a1, a2, a3, a4⟩, ⟨b0, b1, b2, b3, b4⟩, ⟨v1, ok1⟩, v2, ok2⟩ := two_ranges ha
  have ht1 : (flatM (mat (r1 :: rs1))).length ≤ 100000 := by rw [flatM_mat]; exact Nat.le_trans (flatten_le _ 6 fun r hr => by have := hC1 r hr; omega) (by rw [hR1]; omega)
  have ht2 : (flatM (mat (r2 :: rs2))).length ≤ 100000 := by rw [flatM_mat]; exact Nat.le_trans (flatten_le _ 6 fun r hr => by have := hC2 r hr; omega) (by rw [hR2]; omega)
  have hbB : Below (w.alloc (.cells #[.int .i64 0, .int .i64 0, .int .i64 0, .string ⟨#[]⟩, .slice none 0 0] 27)).heap.size (w.alloc (.cells #[.int .i64 0, .int .i64 0, .int .i64 0, .string ⟨#[]⟩, .slice none 0 0] 27)) ((w.alloc (.cells #[.int .i64 0, .int .i64 0, .int .i64 0, .string ⟨#[]⟩, .slice none 0 0] 27)).alloc (.cells #[.int .i64 1] 3)) := (Below.refl _ _).alloc (Nat.le_refl _) _
  have HK1 := Lib.hid (kinds_mat ⟨⟨5, 0, 0, ⟨#[]⟩⟩, A1, m1, c1⟩ (mat (r1 :: rs1)) (some ⟨w.heap.size + 1, 0, none⟩) 1 [1] ((w.alloc (.cells #[.int .i64 0, .int .i64 0, .int .i64 0, .string ⟨#[]⟩, .slice none 0 0] 27)).alloc (.cells #[.int .i64 1] 3)) (KV.on v1 hbB) ok1 rfl ht1 (by simp) (src_ints _ 3 [1] #[.int .i64 1] _ _ rfl (World.size_alloc _ _).symm (by simp)))
  have HA := Lib.hid (And.intro ha (And.intro hbA hbB))
  have HS := Lib.hid (And.intro (And.intro hR1 hR2) (And.intro (And.intro hC1 hC2) (And.intro hn1 hn2)))
  have HT := Lib.hid (And.intro ok2 ht2)
  have hfm1 : flatM (mat (r1 :: rs1)) = (r1 :: rs1).flatten := flatM_mat _
  have hfm2 : flatM (mat (r2 :: rs2)) = (r2 :: rs2).flatten := flatM_mat _
  rw [hfm1] at HK1
  have HFM := Lib.hid hfm2
  clear h ha v1 v2 ok1 ok2 ht1 ht2 hbA hbB hR1 hR2 hC1 hC2 hn1 hn2 hfm1 hfm2
  go_enter Tryz.func81, Tryz.ntmps81
  go_wp2_with fail
  have HK1' := HK1.out
  rw [show ([1] : List Int).length = 1 from rfl] at HK1'
  clear HK1
  (with_reducible refine HK1'.mono ?_)
  rintro e w1 ⟨rfl, hb1⟩
  have hbw1 := (HA.out.2.1.trans (HA.out.2.2.mono HA.out.2.1.size)).trans (hb1.mono (Nat.le_trans HA.out.2.1.size HA.out.2.2.size))
  have Z1 := Lib.hid (Z0.out.below (HA.out.2.2.trans (hb1.mono HA.out.2.2.size)))
  have ha1 := HA.out.1.below (HA.out.2.2.trans (hb1.mono HA.out.2.2.size))
  clear hb1 a0 a1 a2 a3 a4 b0 b1 b2 b3 b4 hblt HK1'
  cases hk1 : kindsB [1] (r1 :: rs1).flatten
  · clear hk1 ha1
    go_wp2_with fail
    (with_reducible refine (doubt_any _).mono ?_)
    rintro e w9 ⟨rfl, hb9⟩
    have hbw9 := hbw1.trans (hb9.mono hbw1.size)
    obtain ⟨q, q0, q1, q2, q3, q4, qf⟩ := Z1.out.below hb9
    clear hb9
    go_wp2
    exact bodyPost_ret (v := (.agg #[.int .i64 6, .int .i64 0, .int .i64 0, .string ⟨#[]⟩, .slice none 0 0])) (by simp [results, Tryz.results81, go_sem, q, q0, q1, q2, q3, q4, qf]) rfl ⟨⟨⟨6, 0, 0, ⟨#[]⟩⟩, none, 0, 0⟩, ⟨doubtFv, []⟩, .inl rfl, rfl, ⟨rfl, .inl ⟨by decide, rfl, rfl, rfl, rfl⟩⟩, below5 hbw9 (Nat.le_refl _)⟩
  · have HK := Lib.hid hk1
    clear hk1
    obtain ⟨hblt, ⟨a0, a1, a2, a3, a4⟩, ⟨b0, b1, b2, b3, b4⟩, ⟨v1, ok1⟩, v2, ok2⟩ := two_ranges ha1
    have hbC : Below w1.heap.size w1 (w1.alloc (.cells #[.int .i64 1] 3)) := (Below.refl _ _).alloc (Nat.le_refl _) _
    have hk2 := kinds_mat ⟨⟨5, 0, 0, ⟨#[]⟩⟩, A2, m2, c2⟩ (mat (r2 :: rs2)) (some ⟨w1.heap.size, 0, none⟩) 1 [1] (w1.alloc (.cells #[.int .i64 1] 3)) (KV.on v2 hbC) HT.out.1 rfl HT.out.2 (by simp) (src_ints _ 3 [1] #[.int .i64 1] _ _ rfl rfl (by simp))
    rw [HFM.out] at hk2
    have HK2 := Lib.hid hk2
    have HA1 := Lib.hid (And.intro ha1 (And.intro hbw1 hbC))
    clear hk2 v1 v2 ok1 ok2 ha1 hbw1 hbC
    go_wp2_with fail
    have HK2' := HK2.out
    rw [show ([1] : List Int).length = 1 from rfl] at HK2'
    clear HK2
    (with_reducible refine HK2'.mono ?_)
    rintro e w2 ⟨rfl, hb2⟩
    have hb12 := HA1.out.2.2.trans (hb2.mono HA1.out.2.2.size)
    have hbw2 := HA1.out.2.1.trans (hb12.mono HA1.out.2.1.size)
    have Z2 := Lib.hid (Z1.out.below hb12)
    have ha2 := HA1.out.1.below hb12
    clear hb2 hb12 a0 a1 a2 a3 a4 b0 b1 b2 b3 b4 hblt HK2'
    cases hk2 : kindsB [1] (r2 :: rs2).flatten
    · clear hk2 ha2
      go_wp2_with fail
      (with_reducible refine (doubt_any _).mono ?_)
      rintro e w9 ⟨rfl, hb9⟩
      have hbw9 := hbw2.trans (hb9.mono hbw2.size)
      obtain ⟨q, q0, q1, q2, q3, q4, qf⟩ := Z2.out.below hb9
      clear hb9
      go_wp2
      exact bodyPost_ret (v := (.agg #[.int .i64 6, .int .i64 0, .int .i64 0, .string ⟨#[]⟩, .slice none 0 0])) (by simp [results, Tryz.results81, go_sem, q, q0, q1, q2, q3, q4, qf]) rfl ⟨⟨⟨6, 0, 0, ⟨#[]⟩⟩, none, 0, 0⟩, ⟨doubtFv, []⟩, .inl rfl, rfl, ⟨rfl, .inl ⟨by decide, rfl, rfl, rfl, rfl⟩⟩, below5 hbw9 (Nat.le_refl _)⟩
    · have HKK := Lib.hid (And.intro HK.out hk2)
      clear hk2 HK
      obtain ⟨hblt, ⟨a0, a1, a2, a3, a4⟩, ⟨b0, b1, b2, b3, b4⟩, ⟨v1, ok1⟩, v2, ok2⟩ := two_ranges ha2
      have HSH1 := Lib.hid (shape_any A1 m1 c1 r1 rs1 w2 (vis_rows v1))
      have hm1 : m1 = R1 := by rw [(vis_rows v1).2.1, List.length_map, HS.out.1.1]
      have hm2 : m2 = R2 := by rw [(vis_rows v2).2.1, List.length_map, HS.out.1.2]
      have hr1l : r1.length = C1 := HS.out.2.1.1 r1 (List.mem_cons_self ..)
      have hr2l : r2.length = C2 := HS.out.2.1.2 r2 (List.mem_cons_self ..)
      subst hm1 hm2
      rw [hr1l] at HSH1
      have HA2 := Lib.hid (And.intro ha2 (And.intro hbw2 hr2l))
      clear v1 v2 ok1 ok2 ha2 hbw2 hr1l hr2l
      go_wp2_with fail
      (with_reducible refine (HSH1.out).mono ?_)
      rintro e w3 ⟨rfl, hb3⟩
      have hbw3 := HA2.out.2.1.trans (hb3.mono HA2.out.2.1.size)
      have Z3 := Lib.hid (Z2.out.below hb3)
      have ha3 := HA2.out.1.below hb3
      clear hb3 a0 a1 a2 a3 a4 b0 b1 b2 b3 b4 hblt HSH1
      obtain ⟨hblt, ⟨a0, a1, a2, a3, a4⟩, ⟨b0, b1, b2, b3, b4⟩, ⟨v1, ok1⟩, v2, ok2⟩ := two_ranges ha3
      have hsh2 := shape_any A2 m2 c2 r2 rs2 w3 (vis_rows v2)
      rw [HA2.out.2.2] at hsh2
      have HSH2 := Lib.hid hsh2
      have HA3 := Lib.hid (And.intro ha3 hbw3)
      clear v1 v2 ok1 ok2 ha3 hbw3 hsh2
      go_wp2_with fail
      (with_reducible refine (HSH2.out).mono ?_)
      rintro e w4 ⟨rfl, hb4⟩
      have hbw4 := HA3.out.2.trans (hb4.mono HA3.out.2.size)
      have Z4 := Lib.hid (Z3.out.below hb4)
      have ha4 := HA3.out.1.below hb4
      clear hb4 a0 a1 a2 a3 a4 b0 b1 b2 b3 b4 hblt HSH2
      by_cases hne : C1 = m2
      · subst hne
        obtain ⟨hblt, ⟨a0, a1, a2, a3, a4⟩, ⟨b0, b1, b2, b3, b4⟩, ⟨v1, ok1⟩, v2, ok2⟩ := two_ranges ha4
        obtain ⟨-, -, ba, offa, rfl, hba, hrow1⟩ := vis_rows v1
        obtain ⟨-, -, bb, offb, rfl, hbb, hrow2⟩ := vis_rows v2
        have HAB := Lib.hid (And.intro a4 b4)
        have HR := Lib.hid (And.intro hrow1 hrow2)
        have HBB := Lib.hid (And.intro (show ba < w4.heap.size from hba) (show bb < w4.heap.size from hbb))
        obtain ⟨f, hf⟩ : ∃ f, f = prodV (numsI (r1 :: rs1)) (numsI (r2 :: rs2)) C1 := ⟨_, rfl⟩
        have HF := Lib.hid hf
        have HB4 := Lib.hid hbw4
        have hz0 : w.heap.size < w4.heap.size := Z4.out.1
        clear a0 a1 a2 a3 a4 b0 b1 b2 b3 b4 hblt v1 ok1 v2 ok2 hrow1 hrow2 hba hbb hf ha4 hbw4 HA HA1 HA2 HA3 Z1 Z2 Z3 HT HFM
        go_wp2_with fail
        go_loopw [7, 8] (fun v i wr => ∃ (k : Nat) (y : Value), k ≤ m1 ∧ i = .int .i64 k ∧ y = v ∧ PrO w4 wr y f C2 k) (fun _ i _ => m1 - (intOf i).toNat)
        case atStart => exact ⟨0, _, Nat.zero_le _, rfl, rfl, [], Below.refl _ _, Kind.Many.nil _ _ _ _⟩
        case round =>
          obtain ⟨k, y, hk, rfl, rfl, H, hbe, hmany⟩ := hrel
          have HO := Lib.hid (And.intro hbe hmany)
          have hsz := hbe.size
          clear hbe hmany
          by_cases hlt : k < m1
          · obtain ⟨fa, hfa⟩ : ∃ fa : Nat → Int, fa = fun x => at2 (numsI (r1 :: rs1)) 0 k x := ⟨_, rfl⟩
            obtain ⟨rw1, hrw1⟩ : ∃ rw, (r1 :: rs1)[k]? = some rw := ⟨_, List.getElem?_eq_getElem (by rw [HS.out.1.1]; exact hlt)⟩
            have hw1l : rw1.length = C1 := HS.out.2.1.1 rw1 (List.mem_of_getElem? hrw1)
            obtain ⟨hd5, h15, -, b5, off5, c5, rfl, hb5, hrow5⟩ := HR.out.1 k (fvs rw1) (by rw [List.getElem?_map, hrw1]; rfl)
            rw [show (fvs rw1).length = C1 by rw [fvs_len]; exact hw1l] at h15
            have H5 := Lib.hid (And.intro (And.intro h15 hrow5) (And.intro (And.intro hrw1 hw1l) (And.intro hfa hb5)))
            clear h15 hrow5 hrw1 hw1l hfa hb5
            go_wp2_with fail
            obtain ⟨wo, rfl⟩ : ∃ wo : World, wo = wr := ⟨_, rfl⟩
            go_loopw [9, 10] (fun v i wq => ∃ (q : Nat) (z : Value), q ≤ C2 ∧ i = .int .i64 q ∧ z = v ∧ PrI wo wq z (f k) q) (fun _ i _ => C2 - (intOf i).toNat)
            case atStart => exact ⟨0, _, Nat.zero_le _, rfl, rfl, Below.refl _ _, Owns.nil_ _ _ _ _⟩
            case round =>
              obtain ⟨q, z, hq, rfl, rfl, hbq, hown⟩ := hrel
              have HI := Lib.hid (And.intro hbq hown)
              have hszq := hbq.size
              clear hbq hown
              by_cases hqm : q < C2
              · obtain ⟨fb, hfb⟩ : ∃ fb : Nat → Int, fb = fun x => at2 (numsI (r2 :: rs2)) 0 x q := ⟨_, rfl⟩
                have HFB := Lib.hid hfb
                clear hfb
                go_wp2_with fail
                (with_reducible refine (int_ok 0 _ (by decide) (by decide)).mono ?_)
                rintro e wj ⟨rfl, hbj⟩
                have HJ := Lib.hid (HI.out.1.trans (hbj.mono hszq))
                have HOJ := Lib.hid (HI.out.2.below hbj)
                have hszj := hbj.size
                clear hbj
                go_wp2_with fail
                have hat0 : SumAt wj (wj.alloc (.cells #[.int .i64 1, .int .i64 0, .int .i64 1, .string ⟨#[]⟩, .slice none 0 0] 27)) (numV (idot fa fb 0)) := ⟨(Below.refl _ _).alloc (Nat.le_refl _) _, Blk.new _ _ _⟩
                have HAT := Lib.hid hat0
                clear hat0
                go_loopw [12] (fun i wx => ∃ x : Nat, x ≤ C1 ∧ i = .int .i64 x ∧ SumAt wj wx (numV (idot fa fb x))) (fun i _ => C1 - (intOf i).toNat)
                case atStart => exact ⟨0, Nat.zero_le _, rfl, HAT.out⟩
                case round =>
                  obtain ⟨x, hx, rfl, hbx, hblk⟩ := hrel
                  obtain ⟨u, hu⟩ : ∃ u : Fv, u = numV (idot fa fb x) := ⟨_, rfl⟩
                  rw [← hu] at hblk
                  have HX := Lib.hid (And.intro hbx hblk)
                  have hszx := hbx.size
                  have s0 : wr.cell? ⟨wj.heap.size, 0, none⟩ = some (.int .i64 u.k) := hblk.cell 0
                  have s1 : wr.cell? ⟨wj.heap.size, 1, none⟩ = some (.int .i64 u.n) := hblk.cell 1
                  have s2 : wr.cell? ⟨wj.heap.size, 2, none⟩ = some (.int .i64 u.d) := hblk.cell 2
                  have s3 : wr.cell? ⟨wj.heap.size, 3, none⟩ = some (.string u.s) := hblk.cell 3
                  have s4 : wr.cell? ⟨wj.heap.size, 4, none⟩ = some (.slice none 0 0) := hblk.cell 4
                  have hsblt : wj.heap.size < wr.heap.size := hblk.lt
                  clear hbx hblk
                  by_cases hxc : x < C1
                  · obtain ⟨rw2, hrw2⟩ : ∃ rw, (r2 :: rs2)[x]? = some rw := ⟨_, List.getElem?_eq_getElem (by rw [HS.out.1.2]; exact hxc)⟩
                    have hw2l : rw2.length = C2 := HS.out.2.1.2 rw2 (List.mem_of_getElem? hrw2)
                    obtain ⟨x1, hx1⟩ : ∃ y, rw1[x]? = some y := ⟨_, List.getElem?_eq_getElem (by rw [H5.out.2.1.2]; exact hxc)⟩
                    obtain ⟨x2, hx2⟩ : ∃ y, rw2[q]? = some y := ⟨_, List.getElem?_eq_getElem (by rw [hw2l]; exact hqm)⟩
                    obtain ⟨hxe1, hxn1⟩ := kinds_nums HS.out.2.2.1 HKK.out.1 rw1 (List.mem_of_getElem? H5.out.2.1.1) x1 (List.mem_of_getElem? hx1)
                    obtain ⟨hxe2, hxn2⟩ := kinds_nums HS.out.2.2.2 HKK.out.2 rw2 (List.mem_of_getElem? hrw2) x2 (List.mem_of_getElem? hx2)
                    have hfn1 : fa x = x1.n := by rw [H5.out.2.2.1]; exact at2_get (M := numsI (r1 :: rs1)) (by unfold numsI; rw [List.getElem?_map, H5.out.2.1.1]; rfl) (by rw [List.getElem?_map, hx1]; rfl)
                    have hfn2 : fb x = x2.n := by rw [HFB.out]; exact at2_get (M := numsI (r2 :: rs2)) (by unfold numsI; rw [List.getElem?_map, hrw2]; rfl) (by rw [List.getElem?_map, hx2]; rfl)
                    obtain ⟨n1, hn1⟩ : ∃ n, n = x1.n := ⟨_, rfl⟩
                    obtain ⟨n2, hn2⟩ : ∃ n, n = x2.n := ⟨_, rfl⟩
                    rw [← hn1] at hxe1 hxn1 hfn1
                    rw [← hn2] at hxe2 hxn2 hfn2
                    obtain ⟨hd6, h16, -, b6, off6, c6, rfl, hb6, hrow6⟩ := HR.out.2 x (fvs rw2) (by rw [List.getElem?_map, hrw2]; rfl)
                    rw [show (fvs rw2).length = C2 by rw [fvs_len]; exact hw2l] at h16
                    have hR1 := H5.out.1.2 x x1.cells (by show (rw1.map Fv.cells)[x]? = _; rw [List.getElem?_map, hx1]; rfl)
                    have hR2 := hrow6 q x2.cells (by show (rw2.map Fv.cells)[q]? = _; rw [List.getElem?_map, hx2]; rfl)
                    rw [hxe1] at hR1
                    rw [hxe2] at hR2
                    have HMC : Hid (MmC b off ba offa b5 off5 bb offb b6 off6 k x q m1 c1 C1 c2 C2 c5 c6 n1 n2 w4) := Lib.hid ⟨⟨HAB.out.1, H5.out.1.1, hR1.2 0 _ rfl, hR1.2 1 _ rfl, hR1.2 2 _ rfl, hR1.2 3 _ rfl, hR1.2 4 _ rfl⟩, HAB.out.2, h16, hR2.2 0 _ rfl, hR2.2 1 _ rfl, hR2.2 2 _ rfl, hR2.2 3 _ rfl, hR2.2 4 _ rfl⟩
                    have HBX := Lib.hid (HO.out.1.trans ((HJ.out.trans (HX.out.1.mono (Nat.le_trans hszq hszj))).mono hsz))
                    obtain ⟨p, hp⟩ : ∃ p : Fv, p = numV (mulI n1 n2) := ⟨_, rfl⟩
                    obtain ⟨u', hu'⟩ : ∃ p : Fv, p = numV (idot fa fb (x + 1)) := ⟨_, rfl⟩
                    have HMUL : Hid (∀ W : World, Calls Tryz.prog 156 #[(.agg #[.int .i64 1, .int .i64 n1, .int .i64 1, .string ⟨#[]⟩, .slice none 0 0]), (.agg #[.int .i64 1, .int .i64 n2, .int .i64 1, .string ⟨#[]⟩, .slice none 0 0])] W fun e w' => e = .returned (.agg #[.int .i64 p.k, .int .i64 p.n, .int .i64 p.d, .string p.s, .slice none 0 0]) ∧ Below W.heap.size W w') := Lib.hid fun W => (mul_any n1 n2 W hxn1 hxn2).mono fun e w' h => by rw [hp]; exact h
                    have HADD : Hid (∀ W : World, Calls Tryz.prog 155 #[(.agg #[.int .i64 u.k, .int .i64 u.n, .int .i64 u.d, .string u.s, .slice none 0 0]), (.agg #[.int .i64 p.k, .int .i64 p.n, .int .i64 p.d, .string p.s, .slice none 0 0])] W fun e w' => e = .returned (.agg #[.int .i64 u'.k, .int .i64 u'.n, .int .i64 u'.d, .string u'.s, .slice none 0 0]) ∧ Below W.heap.size W w') := Lib.hid fun W => by
                      rw [hu, hp, hu', ← hfn1, ← hfn2]
                      exact add_any (idot fa fb x) (mulI (fa x) (fb x)) W (idot_small _ _ _) (mulI_small _ _)
                    have HU' := Lib.hid hu'
                    clear hrw2 hw2l hx1 hx2 hxe1 hxn1 hxe2 hxn2 hfn1 hfn2 hn1 hn2 h16 hb6 hrow6 hR1 hR2 hp hu hu'
                    go_wp2_with fail
                    refine wp_region_held_drew (S := fun X => Below w4.heap.size w4 X) (by kernel_rfl) HBX.out.drew (fun hHeld => ?_)
                    refine takeL (i := 1) (v := ?v1) rfl (by kernel_rfl) (by kernel_rfl) (by kernel_rfl) (fun _ _ _ h => h) (Or.inl ⟨by rfl, ?h1⟩) (by assumption) ?r1
                    case h1 => (intro X hSw; obtain ⟨⟨d0, d1, d2, d3, d4, d5, d6⟩, e0, e1, e2, e3, e4, e5, e6⟩ := HMC.out.keep hSw; go_simp <;> with_reducible rfl)
                    (try simp only [Act.put, List.setIfInBounds_toArray, List.set_cons_zero, List.set_cons_succ])
                    refine takeL (i := 2) (v := ?v2) rfl (by kernel_rfl) (by kernel_rfl) (by kernel_rfl) (fun _ _ _ h => h) (Or.inl ⟨by rfl, ?h2⟩) (by assumption) ?r2
                    case h2 => (intro X hSw; obtain ⟨⟨d0, d1, d2, d3, d4, d5, d6⟩, e0, e1, e2, e3, e4, e5, e6⟩ := HMC.out.keep hSw; go_simp <;> with_reducible rfl)
                    (try simp only [Act.put, List.setIfInBounds_toArray, List.set_cons_zero, List.set_cons_succ])
                    refine takeL (i := 3) (v := ?v3) rfl (by kernel_rfl) (by kernel_rfl) (by kernel_rfl) (fun _ _ _ h => h) (Or.inl ⟨by rfl, ?h3⟩) (by assumption) ?r3
                    case h3 => (intro X hSw; obtain ⟨⟨d0, d1, d2, d3, d4, d5, d6⟩, e0, e1, e2, e3, e4, e5, e6⟩ := HMC.out.keep hSw; go_simp <;> with_reducible rfl)
                    (try simp only [Act.put, List.setIfInBounds_toArray, List.set_cons_zero, List.set_cons_succ])
                    refine takeL (i := 4) (v := ?v4) rfl (by kernel_rfl) (by kernel_rfl) (by kernel_rfl) (fun _ _ _ h => h) (Or.inl ⟨by rfl, ?h4⟩) (by assumption) ?r4
                    case h4 => (intro X hSw; obtain ⟨⟨d0, d1, d2, d3, d4, d5, d6⟩, e0, e1, e2, e3, e4, e5, e6⟩ := HMC.out.keep hSw; go_simp <;> with_reducible rfl)
                    (try simp only [Act.put, List.setIfInBounds_toArray, List.set_cons_zero, List.set_cons_succ])
                    refine takeL (i := 5) (v := ?v5) rfl (by kernel_rfl) (by kernel_rfl) (by kernel_rfl) (fun _ _ _ h => h) (Or.inl ⟨by rfl, ?h5⟩) (by assumption) ?r5
                    case h5 => (intro X hSw; obtain ⟨⟨d0, d1, d2, d3, d4, d5, d6⟩, e0, e1, e2, e3, e4, e5, e6⟩ := HMC.out.keep hSw; go_simp <;> with_reducible rfl)
                    (try simp only [Act.put, List.setIfInBounds_toArray, List.set_cons_zero, List.set_cons_succ])
                    refine takeL (i := 6) (v := ?v6) rfl (by kernel_rfl) (by kernel_rfl) (by kernel_rfl) (fun _ _ _ h => h) (Or.inl ⟨by rfl, ?h6⟩) (by assumption) ?r6
                    case h6 => (intro X hSw; obtain ⟨⟨d0, d1, d2, d3, d4, d5, d6⟩, e0, e1, e2, e3, e4, e5, e6⟩ := HMC.out.keep hSw; go_simp <;> with_reducible rfl)
                    (try simp only [Act.put, List.setIfInBounds_toArray, List.set_cons_zero, List.set_cons_succ])
                    refine takeL (i := 7) (v := ?v7) rfl (by kernel_rfl) (by kernel_rfl) (by kernel_rfl) (fun _ _ _ h => h) (Or.inl ⟨by rfl, ?h7⟩) (by assumption) ?r7
                    case h7 => (intro X hSw; obtain ⟨⟨d0, d1, d2, d3, d4, d5, d6⟩, e0, e1, e2, e3, e4, e5, e6⟩ := HMC.out.keep hSw; go_simp <;> with_reducible rfl)
                    (try simp only [Act.put, List.setIfInBounds_toArray, List.set_cons_zero, List.set_cons_succ])
                    refine takeL (i := 8) (v := ?v8) rfl (by kernel_rfl) (by kernel_rfl) (by kernel_rfl) (fun _ _ _ h => h) (Or.inl ⟨by rfl, ?h8⟩) (by assumption) ?r8
                    case h8 => (intro X hSw; obtain ⟨⟨d0, d1, d2, d3, d4, d5, d6⟩, e0, e1, e2, e3, e4, e5, e6⟩ := HMC.out.keep hSw; go_simp <;> with_reducible rfl)
                    (try simp only [Act.put, List.setIfInBounds_toArray, List.set_cons_zero, List.set_cons_succ])
                    refine takeL (i := 9) (v := ?v9) rfl (by kernel_rfl) (by kernel_rfl) (by kernel_rfl) (fun _ _ _ h => h) (Or.inl ⟨by rfl, ?h9⟩) (by assumption) ?r9
                    case h9 => (intro X hSw; obtain ⟨⟨d0, d1, d2, d3, d4, d5, d6⟩, e0, e1, e2, e3, e4, e5, e6⟩ := HMC.out.keep hSw; go_simp <;> with_reducible rfl)
                    (try simp only [Act.put, List.setIfInBounds_toArray, List.set_cons_zero, List.set_cons_succ])
                    refine takeL (i := 10) (v := ?v10) rfl (by kernel_rfl) (by kernel_rfl) (by kernel_rfl) (fun _ _ _ h => h) (Or.inl ⟨by rfl, ?h10⟩) (by assumption) ?r10
                    case h10 => (intro X hSw; obtain ⟨⟨d0, d1, d2, d3, d4, d5, d6⟩, e0, e1, e2, e3, e4, e5, e6⟩ := HMC.out.keep hSw; go_simp <;> with_reducible rfl)
                    (try simp only [Act.put, List.setIfInBounds_toArray, List.set_cons_zero, List.set_cons_succ])
                    refine takeL (i := 11) (v := ?v11) rfl (by kernel_rfl) (by kernel_rfl) (by kernel_rfl) (fun _ _ _ h => h) (Or.inl ⟨by rfl, ?h11⟩) (by assumption) ?r11
                    case h11 => (intro X hSw; obtain ⟨⟨d0, d1, d2, d3, d4, d5, d6⟩, e0, e1, e2, e3, e4, e5, e6⟩ := HMC.out.keep hSw; go_simp <;> with_reducible rfl)
                    (try simp only [Act.put, List.setIfInBounds_toArray, List.set_cons_zero, List.set_cons_succ])
                    refine takeL (i := 12) (v := ?v12) rfl (by kernel_rfl) (by kernel_rfl) (by kernel_rfl) (fun _ _ _ h => h) (Or.inl ⟨by rfl, ?h12⟩) (by assumption) ?r12
                    case h12 => (intro X hSw; obtain ⟨⟨d0, d1, d2, d3, d4, d5, d6⟩, e0, e1, e2, e3, e4, e5, e6⟩ := HMC.out.keep hSw; go_simp <;> with_reducible rfl)
                    (try simp only [Act.put, List.setIfInBounds_toArray, List.set_cons_zero, List.set_cons_succ])
                    refine takeL (i := 13) (v := ?v13) rfl (by kernel_rfl) (by kernel_rfl) (by kernel_rfl) (fun _ _ _ h => h) (Or.inl ⟨by rfl, ?h13⟩) (by assumption) ?r13
                    case h13 => (intro X hSw; obtain ⟨⟨d0, d1, d2, d3, d4, d5, d6⟩, e0, e1, e2, e3, e4, e5, e6⟩ := HMC.out.keep hSw; go_simp <;> with_reducible rfl)
                    (try simp only [Act.put, List.setIfInBounds_toArray, List.set_cons_zero, List.set_cons_succ])
                    refine takeL (i := 14) (v := ?v14) rfl (by kernel_rfl) (by kernel_rfl) (by kernel_rfl) (fun _ _ _ h => h) (Or.inl ⟨by rfl, ?h14⟩) (by assumption) ?r14
                    case h14 => (intro X hSw; obtain ⟨⟨d0, d1, d2, d3, d4, d5, d6⟩, e0, e1, e2, e3, e4, e5, e6⟩ := HMC.out.keep hSw; go_simp <;> with_reducible rfl)
                    (try simp only [Act.put, List.setIfInBounds_toArray, List.set_cons_zero, List.set_cons_succ])
                    refine takeL (i := 15) (v := ?v15) rfl (by kernel_rfl) (by kernel_rfl) (by kernel_rfl) (fun _ _ _ h => h) (Or.inl ⟨by rfl, ?h15⟩) (by assumption) ?r15
                    case h15 => (intro X hSw; obtain ⟨⟨d0, d1, d2, d3, d4, d5, d6⟩, e0, e1, e2, e3, e4, e5, e6⟩ := HMC.out.keep hSw; go_simp <;> with_reducible rfl)
                    (try simp only [Act.put, List.setIfInBounds_toArray, List.set_cons_zero, List.set_cons_succ])
                    refine takeL (i := 16) (v := ?v16) rfl (by kernel_rfl) (by kernel_rfl) (by kernel_rfl) (fun _ _ _ h => h) (Or.inl ⟨by rfl, ?h16⟩) (by assumption) ?r16
                    case h16 => (intro X hSw; obtain ⟨⟨d0, d1, d2, d3, d4, d5, d6⟩, e0, e1, e2, e3, e4, e5, e6⟩ := HMC.out.keep hSw; go_simp <;> with_reducible rfl)
                    (try simp only [Act.put, List.setIfInBounds_toArray, List.set_cons_zero, List.set_cons_succ])
                    refine takeL (i := 17) (v := ?v17) rfl (by kernel_rfl) (by kernel_rfl) (by kernel_rfl) (fun _ _ _ h => h) (Or.inl ⟨by rfl, ?h17⟩) (by assumption) ?r17
                    case h17 => (intro X hSw; obtain ⟨⟨d0, d1, d2, d3, d4, d5, d6⟩, e0, e1, e2, e3, e4, e5, e6⟩ := HMC.out.keep hSw; go_simp <;> with_reducible rfl)
                    (try simp only [Act.put, List.setIfInBounds_toArray, List.set_cons_zero, List.set_cons_succ])
                    refine takeL (i := 18) (v := ?v18) rfl (by kernel_rfl) (by kernel_rfl) (by kernel_rfl) (fun _ _ _ h => h) (Or.inl ⟨by rfl, ?h18⟩) (by assumption) ?r18
                    case h18 => (intro X hSw; obtain ⟨⟨d0, d1, d2, d3, d4, d5, d6⟩, e0, e1, e2, e3, e4, e5, e6⟩ := HMC.out.keep hSw; go_simp <;> with_reducible rfl)
                    (try simp only [Act.put, List.setIfInBounds_toArray, List.set_cons_zero, List.set_cons_succ])
                    refine takeL (i := 19) (v := ?v19) rfl (by kernel_rfl) (by kernel_rfl) (by kernel_rfl) (fun _ _ _ h => h) (Or.inl ⟨by rfl, ?h19⟩) (by assumption) ?r19
                    case h19 => (intro X hSw; obtain ⟨⟨d0, d1, d2, d3, d4, d5, d6⟩, e0, e1, e2, e3, e4, e5, e6⟩ := HMC.out.keep hSw; go_simp <;> with_reducible rfl)
                    (try simp only [Act.put, List.setIfInBounds_toArray, List.set_cons_zero, List.set_cons_succ])
                    refine takeL (i := 20) (v := ?v20) rfl (by kernel_rfl) (by kernel_rfl) (by kernel_rfl) (fun _ _ _ h => h) (Or.inl ⟨by rfl, ?h20⟩) (by assumption) ?r20
                    case h20 => (intro X hSw; obtain ⟨⟨d0, d1, d2, d3, d4, d5, d6⟩, e0, e1, e2, e3, e4, e5, e6⟩ := HMC.out.keep hSw; go_simp <;> with_reducible rfl)
                    (try simp only [Act.put, List.setIfInBounds_toArray, List.set_cons_zero, List.set_cons_succ])
                    refine wpAnyH_ready (rs := [0, 21]) (by kernel_rfl) (by simp) ?_
                    refine consL rfl (fun K hK => ?_) (consL rfl (fun K hK => ?_) AllReadyH.nil)
                    · go_simp
                      refine hK.out _ _ hHeld (fun hHeld2 => ?_)
                      clear hK K hHeld
                      (try simp only [Act.put, List.setIfInBounds_toArray, List.set_cons_zero, List.set_cons_succ])
                      refine wpAnyH_ready (rs := [21]) (by kernel_rfl) (by simp) ?_
                      refine consL rfl (fun K hK => ?_) AllReadyH.nil
                      go_simp
                      (with_reducible refine (HMUL.out _).mono ?_)
                      rintro e w5 ⟨rfl, hb5⟩
                      go_wp2_with fail
                      have HS5 := hHeld2.trans (hb5.mono hHeld2.size)
                      refine hK.out _ _ HS5 (fun hHeld3 => ?_)
                      clear hK K hHeld2
                      (try simp only [Act.put, List.setIfInBounds_toArray, List.set_cons_zero, List.set_cons_succ])
                      refine wpAnyH_ready (rs := [22]) (by kernel_rfl) (by simp) ?_
                      refine consL rfl (fun K hK => ?_) AllReadyH.nil
                      go_simp
                      (with_reducible refine (HADD.out _).mono ?_)
                      rintro e w6 ⟨rfl, hb6⟩
                      go_wp2_with fail
                      have HS6 := HS5.trans (hb6.mono HS5.size)
                      refine hK.out _ _ HS6 (fun hHeld4 => ?_)
                      clear hK K
                      (try simp only [Act.put, List.setIfInBounds_toArray, List.set_cons_zero, List.set_cons_succ])
                      have hb46 := (Below.refl wr.heap.size wr).drew.trans (hb5.trans (hb6.mono hb5.size))
                      have hblk6 : Blk w6 wj.heap.size 27 (vcs u) := HX.out.2.below hb46 hsblt
                      have t0 : w6.cell? ⟨wj.heap.size, 0, none⟩ = some (.int .i64 u.k) := hblk6.cell 0
                      have t1 : w6.cell? ⟨wj.heap.size, 1, none⟩ = some (.int .i64 u.n) := hblk6.cell 1
                      have t2 : w6.cell? ⟨wj.heap.size, 2, none⟩ = some (.int .i64 u.d) := hblk6.cell 2
                      have t3 : w6.cell? ⟨wj.heap.size, 3, none⟩ = some (.string u.s) := hblk6.cell 3
                      have t4 : w6.cell? ⟨wj.heap.size, 4, none⟩ = some (.slice none 0 0) := hblk6.cell 4
                      have tf : ∀ o, w6.frozen? ⟨wj.heap.size, o, none⟩ = false := fun o => hblk6.free o
                      have HX6 := Lib.hid (And.intro (HX.out.1.trans (hb46.mono hszx)) hblk6)
                      have HS7 : Below w4.heap.size w4 (((((w6.setCell ⟨wj.heap.size, 0, none⟩ (.int .i64 u'.k)).setCell ⟨wj.heap.size, 1, none⟩ (.int .i64 u'.n)).setCell ⟨wj.heap.size, 2, none⟩ (.int .i64 u'.d)).setCell ⟨wj.heap.size, 3, none⟩ (.string u'.s)).setCell ⟨wj.heap.size, 4, none⟩ (.slice none 0 0)) := below5 HS6 (Nat.le_trans hsz (Nat.le_trans hszq hszj))
                      clear hb5 hb6 hb46 hblk6 HS5 HS6
                      refine wpAnyH_ready (rs := [23]) (by kernel_rfl) (by simp) ?_
                      refine consL rfl (fun K hK => ?_) AllReadyH.nil
                      go_simp
                      refine hK.out _ _ HS7 (fun hHeld5 => ?_)
                      clear hK K HS7 t0 t1 t2 t3 t4 tf s0 s1 s2 s3 s4
                      (try simp only [Act.put, List.setIfInBounds_toArray, List.set_cons_zero, List.set_cons_succ])
                      refine wpAnyH_done (by kernel_rfl) ?_ _
                      go_wp2_with fail
                      go_roundw
                      case rel => exact ⟨x + 1, by omega, by go_num, below5 HX6.out.1 (Nat.le_refl _), by rw [← HU'.out]; exact HX6.out.2.put5 u'⟩
                      case measure => simp [intOf]; omega
                    · go_simp
                      (with_reducible refine (HMUL.out _).mono ?_)
                      rintro e w5 ⟨rfl, hb5⟩
                      go_wp2_with fail
                      have HS5 := hHeld.trans (hb5.mono hHeld.size)
                      refine hK.out _ _ HS5 (fun hHeld3 => ?_)
                      clear hK K hHeld
                      (try simp only [Act.put, List.setIfInBounds_toArray, List.set_cons_zero, List.set_cons_succ])
                      have hbd := (Below.refl wr.heap.size wr).drew.trans hb5
                      have hblk5 : Blk w5 wj.heap.size 27 (vcs u) := HX.out.2.below hbd hsblt
                      have r0 : w5.cell? ⟨wj.heap.size, 0, none⟩ = some (.int .i64 u.k) := hblk5.cell 0
                      have r1 : w5.cell? ⟨wj.heap.size, 1, none⟩ = some (.int .i64 u.n) := hblk5.cell 1
                      have r2 : w5.cell? ⟨wj.heap.size, 2, none⟩ = some (.int .i64 u.d) := hblk5.cell 2
                      have r3 : w5.cell? ⟨wj.heap.size, 3, none⟩ = some (.string u.s) := hblk5.cell 3
                      have r4 : w5.cell? ⟨wj.heap.size, 4, none⟩ = some (.slice none 0 0) := hblk5.cell 4
                      clear hbd hblk5
                      refine wpAnyH_ready (rs := [0]) (by kernel_rfl) (by simp) ?_
                      refine consL rfl (fun K hK => ?_) AllReadyH.nil
                      go_simp
                      refine hK.out _ _ hHeld3 (fun hHeld6 => ?_)
                      clear hK K r0 r1 r2 r3 r4
                      (try simp only [Act.put, List.setIfInBounds_toArray, List.set_cons_zero, List.set_cons_succ])
                      refine wpAnyH_ready (rs := [22]) (by kernel_rfl) (by simp) ?_
                      refine consL rfl (fun K hK => ?_) AllReadyH.nil
                      go_simp
                      (with_reducible refine (HADD.out _).mono ?_)
                      rintro e w6 ⟨rfl, hb6⟩
                      go_wp2_with fail
                      have HS6 := HS5.trans (hb6.mono HS5.size)
                      refine hK.out _ _ HS6 (fun hHeld4 => ?_)
                      clear hK K
                      (try simp only [Act.put, List.setIfInBounds_toArray, List.set_cons_zero, List.set_cons_succ])
                      have hb46 := (Below.refl wr.heap.size wr).drew.trans (hb5.trans (hb6.mono hb5.size))
                      have hblk6 : Blk w6 wj.heap.size 27 (vcs u) := HX.out.2.below hb46 hsblt
                      have t0 : w6.cell? ⟨wj.heap.size, 0, none⟩ = some (.int .i64 u.k) := hblk6.cell 0
                      have t1 : w6.cell? ⟨wj.heap.size, 1, none⟩ = some (.int .i64 u.n) := hblk6.cell 1
                      have t2 : w6.cell? ⟨wj.heap.size, 2, none⟩ = some (.int .i64 u.d) := hblk6.cell 2
                      have t3 : w6.cell? ⟨wj.heap.size, 3, none⟩ = some (.string u.s) := hblk6.cell 3
                      have t4 : w6.cell? ⟨wj.heap.size, 4, none⟩ = some (.slice none 0 0) := hblk6.cell 4
                      have tf : ∀ o, w6.frozen? ⟨wj.heap.size, o, none⟩ = false := fun o => hblk6.free o
                      have HX6 := Lib.hid (And.intro (HX.out.1.trans (hb46.mono hszx)) hblk6)
                      have HS7 : Below w4.heap.size w4 (((((w6.setCell ⟨wj.heap.size, 0, none⟩ (.int .i64 u'.k)).setCell ⟨wj.heap.size, 1, none⟩ (.int .i64 u'.n)).setCell ⟨wj.heap.size, 2, none⟩ (.int .i64 u'.d)).setCell ⟨wj.heap.size, 3, none⟩ (.string u'.s)).setCell ⟨wj.heap.size, 4, none⟩ (.slice none 0 0)) := below5 HS6 (Nat.le_trans hsz (Nat.le_trans hszq hszj))
                      clear hb5 hb6 hb46 hblk6 HS5 HS6
                      refine wpAnyH_ready (rs := [23]) (by kernel_rfl) (by simp) ?_
                      refine consL rfl (fun K hK => ?_) AllReadyH.nil
                      go_simp
                      refine hK.out _ _ HS7 (fun hHeld5 => ?_)
                      clear hK K HS7 t0 t1 t2 t3 t4 tf s0 s1 s2 s3 s4
                      (try simp only [Act.put, List.setIfInBounds_toArray, List.set_cons_zero, List.set_cons_succ])
                      refine wpAnyH_done (by kernel_rfl) ?_ _
                      go_wp2_with fail
                      go_roundw
                      case rel => exact ⟨x + 1, by omega, by go_num, below5 HX6.out.1 (Nat.le_refl _), by rw [← HU'.out]; exact HX6.out.2.put5 u'⟩
                      case measure => simp [intOf]; omega
                  · obtain rfl : x = C1 := by omega
                    have hu2 : u = f k q := by rw [hu, HF.out, H5.out.2.2.1, HFB.out]; rfl
                    have HU2 := Lib.hid hu2
                    have HXW := Lib.hid (HJ.out.trans (HX.out.1.mono (Nat.le_trans hszq hszj)))
                    have hown1 : Owns wr wo.heap.size 27 5 z (fvs ((List.range q).map (f k))) := HOJ.out.below HX.out.1
                    have hlk : (fvs ((List.range q).map (f k))).length ≤ 1000000 := by rw [fvs_len, line_len]; omega
                    clear hu hu2
                    go_wp2_with (at_builtin; refine wpList_append_box wr rfl (.tmp 103) (.tmp 105) 29 rfl wo.heap.size 27 _ 5 64 Tryz.underlying29 infoV rfl (by decide) z (fvs ((List.range q).map (f k))) (by rfl) (by exact hown1) #[.int .i64 u.k, .int .i64 u.n, .int .i64 u.d, .string u.s, .slice none 0 0] rfl 1 _ (by rfl) (by simp) (by exact u.one) hlk (by decide) (by omega) ?_; intro v' w2' hown2 hg2 hat2 hbe2)
                    have HB := Lib.hid (And.intro hown2 (HXW.out.trans hbe2))
                    clear hown2 hg2 hat2 hbe2 s0 s1 s2 s3 s4
                    go_roundw
                    case rel => exact ⟨q + 1, _, by omega, by go_num, rfl, HB.out.2, by rw [line_snoc, ← HU2.out]; unfold fvs; rw [List.map_append]; exact HB.out.1⟩
                    case measure => simp [intOf]; omega
              · obtain rfl : q = C2 := by omega
                have hcl : ((List.range q).map (f k)).length = q := line_len _ _
                have hrow1 : RowIs 5 wr (New wo.heap.size wr) z (fvs ((List.range q).map (f k))) := HI.out.2.rowIs (by intro h; have := congrArg List.length h; rw [fvs_len, hcl] at this; simp at this; omega)
                obtain ⟨h0, g5, o5, d5, rfl, hS5, hrow5⟩ := hrow1
                have hle : (fvs ((List.range q).map (f k))).length = q := by rw [fvs_len, hcl]
                rw [hle]
                have HR5 : Hid (RowIs 5 wr (New wo.heap.size wr) (.slice (some ⟨g5, o5, none⟩) q d5) (fvs ((List.range q).map (f k)))) := Lib.hid ⟨h0, g5, o5, d5, by rw [hle], hS5, hrow5⟩
                have hown1 : Owns wr w4.heap.size 29 1 y (H.map (KRow 5).cells) := (HO.out.2.below HI.out.1).1
                have hlk2 : (H.map (KRow 5).cells).length ≤ 1000000 := by rw [List.length_map, HO.out.2.len, List.length_map, grid_len]; omega
                clear h0 hS5 hrow5 hle hcl
                go_wp2_with (at_builtin; refine wpList_append_box wr rfl (.tmp 107) (.tmp 109) 25 rfl w4.heap.size 29 _ 1 24 Tryz.underlying25 infoVs3 rfl (by decide) y (H.map (KRow 5).cells) (by rfl) (by exact hown1) #[.slice (some ⟨g5, o5, none⟩) q d5] rfl 1 _ (by rfl) (by simp) (by exact one_slice _ _ _) hlk2 (by decide) (by omega) ?_; intro v' w2' hown2 hg2 hat2 hbe2)
                have hpush := HO.out.2.push (K := KRow 5) (g := .slice (some ⟨g5, o5, none⟩) q d5) (m := fvs ((List.range q).map (f k))) (by omega) HI.out.1 HR5.out hown2 hg2 (hat2.elim .inl fun h => .inr ⟨_, h, by simp⟩)
                have HPU := Lib.hid hpush
                clear hpush hown2 hg2 hat2 hbe2
                go_roundw
                case rel => exact ⟨k + 1, _, by omega, by go_num, rfl, H ++ [.slice (some ⟨g5, o5, none⟩) q d5], HO.out.1.trans HPU.out.2, by rw [grid_snoc, List.map_append]; exact HPU.out.1⟩
                case measure => simp [intOf]; omega
          · obtain rfl : k = m1 := by omega
            have htl : (grid f k C2).length = k := grid_len _ _ _
            obtain ⟨g, cap, rfl, hg, hrs⟩ := rows_out HO.out.2 (by intro h; have h2 := congrArg List.length h; rw [List.length_map, htl] at h2; have h3 := HS.out.1.1; rw [List.length_cons] at h3; simp at h2; omega)
            have hle : ((grid f k C2).map fvs).length = k := by rw [List.length_map, htl]
            rw [hle] at hrs ⊢
            have HS2 := Lib.hid (And.intro hrs (HB4.out.trans (HO.out.1.mono (Nat.le_of_lt hz0))))
            have Z5 := Lib.hid (Z4.out.below HO.out.1)
            clear hrs hle hg htl
            go_wp2_with fail
            (with_reducible refine (table_any _ _ _ _).mono ?_)
            rintro e w5 ⟨rfl, hb5⟩
            obtain ⟨z, q0, q1, q2, q3, q4, qf⟩ := Z5.out.below hb5
            have hbw5 := HS2.out.2.trans (hb5.mono HS2.out.2.size)
            have HS3 := Lib.hid (hrsM HS2.out.1 hb5)
            clear hb5
            go_wp2
            exact bodyPost_ret (v := (.agg #[.int .i64 5, .int .i64 0, .int .i64 0, .string ⟨#[]⟩, .slice (some ⟨g, 0, none⟩) k cap])) (by simp [results, Tryz.results81, go_sem, z, q0, q1, q2, q3, q4, qf]) rfl ⟨⟨⟨5, 0, 0, ⟨#[]⟩⟩, some ⟨g, 0, none⟩, k, cap⟩, mat (grid f k C2), .inr ⟨HKK.out.1, HKK.out.2, .inr ⟨rfl, by rw [HF.out]⟩⟩, rfl, ⟨rfl, .inr ⟨rfl, (HS3.out.keep ((((((Keep.refl _ _).set (by intro q hq; have h := hq.1; show q ≠ w.heap.size; omega) _).set (by intro q hq; have h := hq.1; show q ≠ w.heap.size; omega) _).set (by intro q hq; have h := hq.1; show q ≠ w.heap.size; omega) _).set (by intro q hq; have h := hq.1; show q ≠ w.heap.size; omega) _).set (by intro q hq; have h := hq.1; show q ≠ w.heap.size; omega) _)).more (by intro q hq; have h := hq.1; exact ⟨by omega, by simp only [size_setCell]; exact hq.2⟩)⟩⟩, below5 hbw5 (Nat.le_refl _)⟩
      · have hnb : ((C1 : Int) != (m2 : Int)) = true := by rw [bne_iff_ne]; omega
        clear ha4
        go_wp2_with fail
        (with_reducible refine ((err_any _ _)).mono ?_)
        rintro e w9 ⟨rfl, hb9⟩
        have hbw9 := hbw4.trans (hb9.mono hbw4.size)
        obtain ⟨q, q0, q1, q2, q3, q4, qf⟩ := Z4.out.below hb9
        clear hb9
        go_wp2
        exact bodyPost_ret (v := (.agg #[.int .i64 4, .int .i64 0, .int .i64 0, .string (⟨#[35, 86, 65, 76, 85, 69, 33]⟩ : ByteArray), .slice none 0 0])) (by simp [results, Tryz.results81, go_sem, q, q0, q1, q2, q3, q4, qf]) rfl ⟨⟨⟨4, 0, 0, (⟨#[35, 86, 65, 76, 85, 69, 33]⟩ : ByteArray)⟩, none, 0, 0⟩, ⟨⟨4, 0, 0, (⟨#[35, 86, 65, 76, 85, 69, 33]⟩ : ByteArray)⟩, []⟩, .inr ⟨HKK.out.1, HKK.out.2, .inl ⟨hne, rfl⟩⟩, rfl, ⟨rfl, .inl ⟨by decide, rfl, rfl, rfl, rfl⟩⟩, below5 hbw9 (Nat.le_refl _)⟩
end

/- Slices of integers as arguments, opened for the rows. -/
section
open Go.RowKit Go.ChangeShapes Go.WideShapes Go.Deep

theorem ones_list {α : Type} (f : α → Value) {w : World} {b off : Nat} (l : Nat) (h : ∀ i, i < l → ∃ x : α, w.cell? ⟨b, off + i, none⟩ = some (f x)) :
    ∃ X : List α, X.length = l ∧ Row w b off 1 (X.map fun x => [f x]) := by
  induction l with
  | zero => exact ⟨[], rfl, by intro i c hi; simp at hi⟩
  | succ l ih =>
    obtain ⟨X, h1, h2⟩ := ih fun i hi => h i (by omega)
    obtain ⟨x, hc⟩ := h l (by omega)
    refine ⟨X ++ [x], by simp [h1], ?_⟩
    intro i c hi
    by_cases hil : i < X.length
    · rw [List.map_append, List.getElem?_append_left (by simpa using hil)] at hi
      exact h2 i c hi
    · have hie : i = X.length := by
        have := (List.getElem?_eq_some_iff.1 hi).1
        simp at this; omega
      subst hie
      simp at hi
      subst hi
      rw [h1]
      refine ⟨rfl, fun j v hj => ?_⟩
      match j, hj with
      | 0, hj => simp at hj; subst hj; simpa using hc
      | j + 1, hj => simp at hj

theorem open_ones {α : Type} (f : α → Value) {H : Type} {enc : TypeId × Value → H} {w : World} {t e : TypeId} {A : Option Addr} {len cap : Nat} {d : DataW H} {p : List MemPlace} (ht : Tryz.prog.underlying t = some (.slice e)) (hC : Tryz.prog.cellsOf e = 1)
    (hdec : ∀ (n : Nat) (cs : List Value) (y : DataW H × List MemPlace), DataW.trod enc Tryz.prog w 0 (fun _ => true) true n e cs = some y → ∃ x, cs = [f x])
    (h : DataW.Trod enc Tryz.prog w 0 (fun _ => true) true t (.slice A len cap) d p) : ∃ X : List α, X.length = len ∧ Src w w.heap.size A 1 (X.map fun x => [f x]) := by
  obtain ⟨fuel, hf⟩ := h
  rcases open_slice ht hf with ⟨hcs, _⟩ | ⟨a, l, c, m, n, D, Pl, hcs, _, hl, hm, hmm, _, hi⟩
  · simp [Value.cells] at hcs
    obtain ⟨rfl, rfl, rfl⟩ := hcs
    exact ⟨[], rfl, .inl rfl⟩
  · simp [Value.cells] at hcs
    obtain ⟨rfl, rfl, rfl⟩ := hcs
    simp only [if_true] at hmm
    subst hmm
    by_cases hl0 : len = 0
    · subst hl0
      exact ⟨[], rfl, .inl rfl⟩
    · obtain ⟨b, off, spot⟩ := a
      have key : ∀ i, i < m → ∃ x : α, w.cell? ((⟨b, off, spot⟩ : Addr).add i) = some (f x) := by
        intro i him
        obtain ⟨cs', hc, ht'⟩ := hi i him
        obtain ⟨x, rfl⟩ := hdec _ _ _ ht'
        rw [hC] at hc
        obtain ⟨_, hcl, hat⟩ := World.cells?_some hc
        refine ⟨x, ?_⟩
        have h0 := hat 0 (by decide)
        rw [Nat.mul_one, Go.Deep.add_add] at h0
        simpa using h0
      have hspot : spot = none := by
        obtain ⟨x, hx⟩ := key 0 (by omega)
        have := World.cell?_spot hx
        simpa [Addr.add] using this
      subst hspot
      obtain ⟨X, h1, h2⟩ := ones_list f len (w := w) (b := b) (off := off) fun i hil => by
        obtain ⟨x, hc⟩ := key i (by omega)
        refine ⟨x, ?_⟩
        have hadd : (⟨b, off, none⟩ : Addr).add i = ⟨b, off + i, none⟩ := by unfold Addr.add; split <;> simp_all
        rwa [hadd] at hc
      have hbl : b < w.heap.size := by
        obtain ⟨x, hx⟩ := key 0 (by omega)
        have := World.block_lt_of_cell? w _ hx
        simpa [Addr.add] using this
      exact ⟨X, h1, .inr ⟨b, off, rfl, hbl, h2⟩⟩

theorem open_ints {H : Type} {enc : TypeId × Value → H} {w : World} {A : Option Addr} {len cap : Nat} {d : DataW H} {p : List MemPlace} (h : DataW.Trod enc Tryz.prog w 0 (fun _ => true) true 22 (.slice A len cap) d p) :
    ∃ X : List Int, X.length = len ∧ IntsIn w A cap X :=
  open_ones (fun b => .int .i64 b) Tryz.underlying22 (by kernel_rfl) (fun n cs y hy => by obtain ⟨b, hb, _⟩ := DataW.trod_int Tryz.underlying3 hy; exact ⟨b, hb⟩) h
end

/- MMULT: that both agree. -/
section
open Go.RowKit
set_option maxRecDepth 100000
set_option maxHeartbeats 1000000

theorem list_two {w : World} {LB : Nat} {g1 g2 : Mg} (h : ListOut w LB [g1, g2]) (h5 : g1.g = ⟨5, 0, ⟨#[]⟩⟩) (h6 : g2.g = ⟨5, 0, ⟨#[]⟩⟩) :
    ∃ E G A1 c1 P1 Q1 A2 c2 P2 Q2, List2 w LB E G (.iface 67 (FMat A1 g1.rows.length c1 P1 Q1)) (.iface 67 (FMat A2 g2.rows.length c2 P2 Q2)) ∧ RowsIs 10 w (· < w.heap.size) A1 g1.rows.length (g1.rows.map inns) ∧ RowsIs 10 w (· < w.heap.size) A2 g2.rows.length (g2.rows.map inns) := by
  obtain ⟨es, G, hl, hall⟩ := h
  match G, hall.1 with
  | [f1, f2], _ =>
    obtain ⟨hk, _⟩ | ⟨_, A1, c1, P1, Q1, hf1, h1, _, _⟩ := hall.2 0 f1 g1 rfl rfl
    · rw [h5] at hk; exact absurd rfl hk
    · obtain ⟨hk, _⟩ | ⟨_, A2, c2, P2, Q2, hf2, h2, _, _⟩ := hall.2 1 f2 g2 rfl rfl
      · rw [h6] at hk; exact absurd rfl hk
      · obtain ⟨E, G, hE⟩ := IsList.two hl
        rw [hf1, hf2] at hE
        exact ⟨E, G, A1, c1, P1, Q1, A2, c2, P2, Q2, hE, h1, h2⟩

theorem get_lt {α : Type} {l : List α} {i : Nat} {x : α} (h : l[i]? = some x) : i < l.length := (List.getElem?_eq_some_iff.1 h).1
def ofM (rows : List (List Fv)) : List (List Gl) := rows.map fun r => r.map Fv.of
theorem ofM_len (rows : List (List Fv)) : (ofM rows).length = rows.length := by unfold ofM; rw [List.length_map]
theorem ofM_cols {rows : List (List Fv)} {C : Nat} (h : ∀ r ∈ rows, r.length = C) : ∀ r ∈ ofM rows, r.length = C := by
  intro r hr
  obtain ⟨r0, h0, rfl⟩ := List.mem_map.1 hr
  rw [List.length_map]; exact h r0 h0
theorem is_of {x : Fv} (h : x = ⟨1, x.n, 1, ⟨#[]⟩⟩ ∧ x.n.natAbs ≤ 99999999999) : Fl.Is (numOf x.of) x.n ∧ x.of.k = 1 := by
  obtain ⟨h, hn⟩ := h
  obtain ⟨k, n, d, s⟩ := x
  injection h with h1 h2 h3 h4
  simp only at hn h1 h3 h4
  subst h1 h3 h4
  have e : (⟨1, n, 1, ⟨#[]⟩⟩ : Fv).of = ⟨1, Fl.nb n 1, ⟨#[]⟩⟩ := Fv.of_eq1 n 1 _
  refine ⟨?_, by rw [e]⟩
  unfold numOf
  rw [e]
  exact Fl.is_clean (Fl.is_nb n (Nat.lt_of_le_of_lt hn (by decide)))
theorem kinds_one {rows : List (List Fv)} (hn : ∀ r ∈ rows, ∀ x ∈ r, x.NumC) (hk : kindsB [1] rows.flatten = true) : ∀ r ∈ ofM rows, ∀ g ∈ r, g.k = 1 := by
  intro r hr g hg
  obtain ⟨r0, h0, rfl⟩ := List.mem_map.1 hr
  obtain ⟨x, hx, rfl⟩ := List.mem_map.1 hg
  exact (is_of (kinds_nums hn hk r0 h0 x hx)).2
theorem is_at {rows : List (List Fv)} {R C i j : Nat} (hn : ∀ r ∈ rows, ∀ x ∈ r, x.NumC) (hk : kindsB [1] rows.flatten = true) (hR : rows.length = R) (hC : ∀ r ∈ rows, r.length = C) (hi : i < R) (hj : j < C) : Fl.Is (at2 (flm (ofM rows)) 0 i j) (at2 (numsI rows) 0 i j) := by
  obtain ⟨r, hr⟩ : ∃ r, rows[i]? = some r := ⟨_, List.getElem?_eq_getElem (by rw [hR]; exact hi)⟩
  have hm := List.mem_of_getElem? hr
  obtain ⟨x, hx⟩ : ∃ x, r[j]? = some x := ⟨_, List.getElem?_eq_getElem (by rw [hC r hm]; exact hj)⟩
  have e1 : at2 (numsI rows) 0 i j = x.n := at2_get (M := numsI rows) (r := r.map Fv.n) (by unfold numsI; rw [List.getElem?_map, hr]; rfl) (by rw [List.getElem?_map, hx]; rfl)
  have e2 : at2 (flm (ofM rows)) 0 i j = numOf x.of := at2_get (M := flm (ofM rows)) (r := (r.map Fv.of).map numOf) (by unfold flm ofM; rw [List.getElem?_map, List.getElem?_map, hr]; rfl) (by rw [List.getElem?_map, List.getElem?_map, hx]; rfl)
  rw [e1, e2]
  exact (is_of (kinds_nums hn hk r hm x (List.mem_of_getElem? hx))).1
theorem numV_ok {o : Option Int} (h : Small o) : (numV o).Ok := (Fv.NumC.cell (.inr ⟨o, rfl, h⟩)).1
theorem grid_mem {α : Type} {f : Nat → Nat → α} {n p : Nat} {r : List α} {x : α} (hr : r ∈ grid f n p) (hx : x ∈ r) : ∃ i j, x = f i j := by
  obtain ⟨i, _, rfl⟩ := List.mem_map.1 hr
  obtain ⟨j, _, rfl⟩ := List.mem_map.1 hx
  exact ⟨i, j, rfl⟩
theorem grid_cols {α : Type} (f : Nat → Nat → α) (n p : Nat) : ∀ r ∈ grid f n p, r.length = p := by
  intro r hr
  obtain ⟨i, _, rfl⟩ := List.mem_map.1 hr
  exact line_len _ _
theorem prodV_ok (A B : List (List Int)) (m i j : Nat) : (prodV A B m i j).Ok := numV_ok (idot_small _ _ _)
theorem grid_ok (A B : List (List Int)) (m R C : Nat) : ∀ r ∈ grid (prodV A B m) R C, ∀ x ∈ r, x.Ok := by
  intro r hr x hx
  obtain ⟨i, j, rfl⟩ := grid_mem hr hx
  exact prodV_ok _ _ _ _ _
/-- Where the product holds no doubt, something is said of each sum. -/
theorem dots_of {A B : List (List Int)} {m R C : Nat} (hd : doubt (flatM (mat (grid (prodV A B m) R C))) = false) : ∀ i j, i < R → j < C → ∃ n, idot (fun x => at2 A 0 i x) (fun x => at2 B 0 x j) m = some n := by
  intro i j hi hj
  cases ho : idot (fun x => at2 A 0 i x) (fun x => at2 B 0 x j) m with
  | some n => exact ⟨n, rfl⟩
  | none =>
    exfalso
    rw [flatM_mat] at hd
    have : doubt (grid (prodV A B m) R C).flatten = true := by
      unfold doubt
      rw [List.any_eq_true]
      refine ⟨prodV A B m i j, List.mem_flatten.2 ⟨_, List.mem_of_getElem? (grid_get (prodV A B m) R C i hi), List.mem_of_getElem? (line_get (fun j => prodV A B m i j) C j hj)⟩, ?_⟩
      unfold prodV
      rw [ho]
      rfl
    rw [hd] at this; cases this
theorem agr_num {x : Nat} {n : Int} (h : Fl.Is x n) (hn : n.natAbs ≤ 99999999999) : Agr (gl1 x).dr (numV (some n)) := by
  have e : (numV (some n)).of = ⟨1, Fl.nb n 1, ⟨#[]⟩⟩ := Fv.of_eq1 n 1 _
  have e2 : (gl1 x).dr = ⟨1, Fl.clean x, ⟨#[]⟩⟩ := by simp [Gl.dr, gl1]
  rw [e2]
  refine ⟨numV_ok hn, rfl, rfl, ?_⟩
  rw [e]
  have := Fl.is_order (Fl.is_clean h) (Fl.is_nb n (Nat.lt_of_le_of_lt hn (by decide)))
  show (Ieee.double.order (Fl.clean x) (Fl.nb n 1) != some .eq) = false
  rw [this]; rfl
theorem agr_prod {F1 F2 : List (List Nat)} {B1 B2 : List (List Int)} {R m C : Nat} (hex : Exact F1 F2 B1 B2 R m C) : AgrRows (drm (glm (grid (prodF F1 F2 m) R C))) (grid (prodV B1 B2 m) R C) := by
  refine ⟨by rw [drm_len, grid_len]; unfold glm; rw [List.length_map, grid_len], fun i rg rx hg hr => ?_⟩
  have hi : i < R := by have := get_lt hr; rwa [grid_len] at this
  rw [grid_get _ _ _ _ hi] at hr
  injection hr with hr
  unfold drm glm at hg
  rw [List.getElem?_map, List.getElem?_map, grid_get _ _ _ _ hi] at hg
  have hg' : ((((List.range C).map fun j => prodF F1 F2 m i j).map gl1).map Gl.dr) = rg := by simpa using hg
  subst hr hg'
  refine ⟨by rw [List.length_map, List.length_map, line_len, line_len], fun j g x hgj hxj => ?_⟩
  have hj : j < C := by have := get_lt hxj; rwa [line_len] at this
  rw [line_get _ _ _ hj] at hxj
  injection hxj with hxj
  rw [List.getElem?_map, List.getElem?_map, line_get _ _ _ hj] at hgj
  have hgj' : (gl1 (prodF F1 F2 m i j)).dr = g := by simpa using hgj
  subst hxj hgj'
  obtain ⟨n, hn, his⟩ := hex.is hi hj
  have hs := idot_small (fun x => at2 B1 0 i x) (fun x => at2 B2 0 x j) m
  rw [hn] at hs
  unfold prodV
  rw [hn]
  exact agr_num his hs

theorem range_len {w : World} {S : Nat → Prop} {A : Option Addr} {m c : Nat} {rows : List (List Fv)} (h : VIs w S ⟨⟨5, 0, 0, ⟨#[]⟩⟩, A, m, c⟩ (mat rows)) : m = rows.length := by
  have h2 : m = (rows.map fvs).length := (vis_rows h).2.1
  rw [h2, List.length_map]

theorem agree_MMULT (b off c m1 c1 m2 c2 : Nat) (A1 A2 : Option Addr) (r1 r2 : List Fv) (rs1 rs2 : List (List Fv)) (w : World) (h1 : RectN (r1 :: rs1)) (h2 : RectN (r2 :: rs2))
    (ha : ArgsIn w b off [⟨⟨5, 0, 0, ⟨#[]⟩⟩, A1, m1, c1⟩, ⟨⟨5, 0, 0, ⟨#[]⟩⟩, A2, m2, c2⟩] [mat (r1 :: rs1), mat (r2 :: rs2)]) :
    Calls Tryz.prog 5 #[.func (.func 6) #[] #[], .string (⟨#[77, 77, 85, 76, 84]⟩ : ByteArray), .slice (some ⟨b, off, none⟩) 2 c] w fun e w' => e = .returned (.bool true) ∧ Below w.heap.size w w' := by
  have ht1 := h1.rect.total
  have ht2 := h2.rect.total
  have hfl : (flatAll [mat (r1 :: rs1), mat (r2 :: rs2)]).length ≤ 100000 := by
    show ((flatM (mat (r1 :: rs1))) ++ ((flatM (mat (r2 :: rs2))) ++ [])).length ≤ 100000
    rw [List.append_nil, List.length_append, flatM_mat, flatM_mat]; omega
  obtain ⟨-, hl1, C1, hC10, hC16, hr1⟩ := h1
  obtain ⟨-, hl2, C2, hC20, hC26, hr2⟩ := h2
  have hc1 : ∀ x ∈ r1 :: rs1, x.length = C1 := fun x hx => (hr1 x hx).1
  have hc2 : ∀ x ∈ r2 :: rs2, x.length = C2 := fun x hx => (hr2 x hx).1
  have hn1 : ∀ r ∈ r1 :: rs1, ∀ x ∈ r, x.NumC := fun x hx => (hr1 x hx).2
  have hn2 : ∀ r ∈ r2 :: rs2, ∀ x ∈ r, x.NumC := fun x hx => (hr2 x hx).2
  obtain ⟨R1, hR1⟩ : ∃ R, R = (r1 :: rs1).length := ⟨_, rfl⟩
  obtain ⟨R2, hR2⟩ : ∃ R, R = (r2 :: rs2).length := ⟨_, rfl⟩
  rw [← hR1] at hl1
  rw [← hR2] at hl2
  have hR10 : 0 < R1 := by rw [hR1]; simp
  have hR20 : 0 < R2 := by rw [hR2]; simp
  refine agrees_det 6 (⟨#[77, 77, 85, 76, 84]⟩ : ByteArray) b off 2 c [⟨⟨5, 0, 0, ⟨#[]⟩⟩, A1, m1, c1⟩, ⟨⟨5, 0, 0, ⟨#[]⟩⟩, A2, m2, c2⟩] [mat (r1 :: rs1), mat (r2 :: rs2)] (MmW (r1 :: rs1) (r2 :: rs2) R1 C1 R2 C2)
    (fun g => (C1 ≠ R2 ∧ g = ⟨⟨4, 0, (⟨#[35, 86, 65, 76, 85, 69, 33]⟩ : ByteArray)⟩, []⟩) ∨ (C1 = R2 ∧ g = ⟨⟨5, 0, ⟨#[]⟩⟩, drm (glm (grid (prodF (flm (ofM (r1 :: rs1))) (flm (ofM (r2 :: rs2))) C1) R1 C2))⟩)) w (fun args W => by kernel_rfl) rfl ha (by omega) (by simp) hfl ?_ ?_ ?_ ?_
  · rintro y (rfl | ⟨_, _, ⟨_, rfl⟩ | ⟨_, rfl⟩⟩)
    · have ho : doubtFv.Ok := .inl (.inr (.inr (.inr rfl)))
      exact ⟨⟨fun _ => ho, by simp, by simp⟩, by unfold flatM; rw [if_neg ho.ne5]; simp⟩
    · have ho : (⟨4, 0, 0, (⟨#[35, 86, 65, 76, 85, 69, 33]⟩ : ByteArray)⟩ : Fv).Ok := .inl (.inr (.inr (.inl rfl)))
      exact ⟨⟨fun _ => ho, by simp, by simp⟩, by unfold flatM; rw [if_neg ho.ne5]; simp⟩
    · refine ⟨⟨fun hk => absurd rfl hk, by show (grid _ R1 C2).length ≤ 1000; rw [grid_len]; omega, fun r hr => ⟨by rw [grid_cols _ _ _ r hr]; omega, grid_ok _ _ _ _ _ r hr⟩⟩, ?_⟩
      rw [flatM_mat]
      refine Nat.le_trans (flatten_le _ 6 fun r' hr' => by rw [grid_cols _ _ _ r' hr']; exact hC26) ?_
      rw [grid_len]; omega
  · intro W hW
    have hd := call_over (⟨#[77, 77, 85, 76, 84]⟩ : ByteArray) (some ⟨b, off, none⟩) 2 c (ManyP (MmW (r1 :: rs1) (r2 :: rs2) R1 C1 R2 C2)) (ManyP.lasts _) W (by
      intro W2 hW2
      have hW' := hW.trans (hW2.mono hW.size)
      refine over_Stat _ _ _ _ _ (ManyP.lasts _) W2 (fits_MMULT b off 2 c [⟨⟨5, 0, 0, ⟨#[]⟩⟩, A1, m1, c1⟩, ⟨⟨5, 0, 0, ⟨#[]⟩⟩, A2, m2, c2⟩] [mat (r1 :: rs1), mat (r2 :: rs2)] W2 rfl (ha.below hW') (by intro m hm; simp at hm; rcases hm with rfl | rfl <;> (intro h2; cases h2)) (by simp)) (here_MMULT b off 2 c _ W2 ?_)
      intro W3 hW3
      exact mmult_any b off c m1 c1 m2 c2 A1 A2 r1 r2 rs1 rs2 R1 C1 R2 C2 W3 (ha.below (hW'.trans (hW3.mono hW'.size))) hR1.symm hR2.symm hl1 hl2 hc1 hc2 hC16 hC26 hC10 hC20 hn1 hn2)
    exact hd.mono fun e w1 h => h.many
  · rintro hd ⟨mm, hmw, hdm⟩ W g cap G' hao
    have hok := of_mem_ok (M := [mat (r1 :: rs1), mat (r2 :: rs2)]) ha.2.2.2 (rows_none ha.2.2.1) hd
    have e1 : (mat (r1 :: rs1)).of.rows.length = R1 := by show (ofM (r1 :: rs1)).length = R1; rw [ofM_len, hR1]
    have e2 : (mat (r2 :: rs2)).of.rows.length = R2 := by show (ofM (r2 :: rs2)).length = R2; rw [ofM_len, hR2]
    rcases hmw with rfl | ⟨k1, k2, ⟨hne, rfl⟩ | ⟨heq, rfl⟩⟩
    · exact absurd hdm (by decide)
    · refine (implE_MMULT g 2 cap G' [(mat (r1 :: rs1)).of, (mat (r2 :: rs2)).of] W rfl hao (by omega) (by simp) hok (fun W2 p LB hl => ?_)).mono ?_
      · obtain ⟨E, G, A1', c1', P1, Q1, A2', c2', P2, Q2, hl2', hw1, hw2⟩ := list_two hl rfl rfl
        rw [e1] at hl2' hw1
        rw [e2] at hl2' hw2
        exact ff_MMULT_ne p LB E G A1' A2' R1 c1' P1 Q1 R2 c2' P2 Q2 (ofM (r1 :: rs1)) (ofM (r2 :: rs2)) R1 C1 R2 C2 W2 hl2' hw1 hw2 e1 e2 (by omega) (by omega) hC10 (by omega) hC20 (by omega) (ofM_cols hc1) (ofM_cols hc2) (kinds_one hn1 k1) (kinds_one hn2 k2) hR10 hR20 hne
      · rintro e w1 ⟨rfl, hb⟩
        exact ⟨⟨⟨4, 0, (⟨#[35, 86, 65, 76, 85, 69, 33]⟩ : ByteArray)⟩, none, 0, 0⟩, ⟨⟨4, 0, (⟨#[35, 86, 65, 76, 85, 69, 33]⟩ : ByteArray)⟩, []⟩, .inl ⟨hne, rfl⟩, rfl, ⟨rfl, .inl ⟨by simp, rfl, rfl, rfl, rfl⟩⟩, hb⟩
    · have hex : Exact (flm (ofM (r1 :: rs1))) (flm (ofM (r2 :: rs2))) (numsI (r1 :: rs1)) (numsI (r2 :: rs2)) R1 C1 C2 := ⟨dots_of hdm, fun i x hi hx => is_at hn1 k1 hR1.symm hc1 hi hx, fun x j hx hj => is_at hn2 k2 hR2.symm hc2 (heq ▸ hx) hj⟩
      refine (impl_MMULT g 2 cap G' [(mat (r1 :: rs1)).of, (mat (r2 :: rs2)).of] (glm (grid (prodF (flm (ofM (r1 :: rs1))) (flm (ofM (r2 :: rs2))) C1) R1 C2)) W rfl hao (by omega) (by simp) hok (by unfold glm; rw [List.length_map, grid_len]; omega) (by intro r hr; obtain ⟨r0, h0, rfl⟩ := List.mem_map.1 hr; rw [List.length_map, grid_cols _ _ _ r0 h0]; omega) (fun W2 p LB hl => ?_)).mono ?_
      · obtain ⟨E, G, A1', c1', P1, Q1, A2', c2', P2, Q2, hl2', hw1, hw2⟩ := list_two hl rfl rfl
        rw [e1] at hl2' hw1
        rw [e2] at hl2' hw2
        exact ff_MMULT_eq p LB E G A1' A2' R1 c1' P1 Q1 R2 c2' P2 Q2 (ofM (r1 :: rs1)) (ofM (r2 :: rs2)) R1 C1 C2 W2 hl2' hw1 hw2 e1 (e2.trans heq.symm) (by omega) (by omega) hC10 (by omega) hC20 (by omega) (ofM_cols hc1) (ofM_cols hc2) (kinds_one hn1 k1) (kinds_one hn2 k2) hR10 _ _ hex
      · intro e w1 hp
        obtain ⟨v, rfl, hg, hb⟩ := hp.gis
        exact ⟨v, _, .inr ⟨heq, rfl⟩, rfl, hg, hb⟩
  · intro hd W v u g mm hg hmm hdm hv hu
    rcases hmm with rfl | ⟨k1, k2, ⟨hne, rfl⟩ | ⟨heq, rfl⟩⟩
    · exact absurd hdm (by decide)
    · have hg' : g = ⟨⟨4, 0, (⟨#[35, 86, 65, 76, 85, 69, 33]⟩ : ByteArray)⟩, []⟩ := by
        rcases hg with ⟨_, h⟩ | ⟨h, _⟩
        · exact h
        · exact absurd h hne
      subst hg'
      obtain ⟨vg, vA, vm, vc⟩ := v
      obtain ⟨ux, uA, um, uc⟩ := u
      obtain ⟨h1, ⟨_, _, h2, h3, h4⟩ | ⟨h2, _⟩⟩ := hv
      · obtain ⟨j1, ⟨_, _, j2, j3, j4⟩ | ⟨j2, _⟩⟩ := hu
        · simp only at h1 h2 h3 h4 j1 j2 j3 j4
          subst h1 h2 h3 h4 j1 j2 j3 j4
          exact same_flat 4 0 ⟨4, 0, 0, (⟨#[35, 86, 65, 76, 85, 69, 33]⟩ : ByteArray)⟩ (.inl (.inr (.inr (.inl rfl)))) rfl (by rw [Fv.of_eqE _ _ _ _ (by simp)]; decide +kernel) W
        · cases j2
      · cases h2
    · have hex : Exact (flm (ofM (r1 :: rs1))) (flm (ofM (r2 :: rs2))) (numsI (r1 :: rs1)) (numsI (r2 :: rs2)) R1 C1 C2 := ⟨dots_of hdm, fun i x hi hx => is_at hn1 k1 hR1.symm hc1 hi hx, fun x j hx hj => is_at hn2 k2 hR2.symm hc2 (heq ▸ hx) hj⟩
      have hg' : g = ⟨⟨5, 0, ⟨#[]⟩⟩, drm (glm (grid (prodF (flm (ofM (r1 :: rs1))) (flm (ofM (r2 :: rs2))) C1) R1 C2))⟩ := by
        rcases hg with ⟨h, _⟩ | ⟨_, h⟩
        · exact absurd heq h
        · exact h
      subst hg'
      exact same_of W v u _ _ hv hu (by rw [grid_len]; omega) (fun r hr => ⟨by rw [grid_cols _ _ _ r hr]; omega, grid_ok _ _ _ _ _ r hr⟩) (agr_prod hex)
end

/- The law FnMmult. -/
section
open Go.RowKit
set_option maxRecDepth 100000
set_option maxHeartbeats 1000000

theorem argsIn_two (w1 : World) (v1 v2 : Ve) (y1 y2 : Mv) (h1 : VIs w1 (· < w1.heap.size) v1 y1) (h2 : VIs w1 (· < w1.heap.size) v2 y2) (o1 : y1.Ok) (o2 : y2.Ok) :
    ArgsIn (w1.alloc (.cells #[.int .i64 v1.x.k, .int .i64 v1.x.n, .int .i64 v1.x.d, .string v1.x.s, .slice v1.A v1.m v1.c, .int .i64 v2.x.k, .int .i64 v2.x.n, .int .i64 v2.x.d, .string v2.x.s, .slice v2.A v2.m v2.c] 27)) w1.heap.size 0 [v1, v2] [y1, y2] := by
  have hB := Blk.new w1 27 #[.int .i64 v1.x.k, .int .i64 v1.x.n, .int .i64 v1.x.d, .string v1.x.s, .slice v1.A v1.m v1.c, .int .i64 v2.x.k, .int .i64 v2.x.n, .int .i64 v2.x.d, .string v2.x.s, .slice v2.A v2.m v2.c]
  have hb : Below w1.heap.size w1 (w1.alloc (.cells #[.int .i64 v1.x.k, .int .i64 v1.x.n, .int .i64 v1.x.d, .string v1.x.s, .slice v1.A v1.m v1.c, .int .i64 v2.x.k, .int .i64 v2.x.n, .int .i64 v2.x.d, .string v2.x.s, .slice v2.A v2.m v2.c] 27)) := (Below.refl _ _).alloc (Nat.le_refl _) _
  refine ⟨by simp, ?_, ⟨rfl, ?_⟩, ?_⟩
  · intro i d hi
    match i, hi with
    | 0, hi =>
      injection hi with hi
      subst hi
      refine ⟨rfl, fun j v hj => ?_⟩
      match j, hj with
      | 0, hj => exact (hB.cell 0).trans hj
      | 1, hj => exact (hB.cell 1).trans hj
      | 2, hj => exact (hB.cell 2).trans hj
      | 3, hj => exact (hB.cell 3).trans hj
      | 4, hj => exact (hB.cell 4).trans hj
    | 1, hi =>
      injection hi with hi
      subst hi
      refine ⟨rfl, fun j v hj => ?_⟩
      match j, hj with
      | 0, hj => exact (hB.cell 5).trans hj
      | 1, hj => exact (hB.cell 6).trans hj
      | 2, hj => exact (hB.cell 7).trans hj
      | 3, hj => exact (hB.cell 8).trans hj
      | 4, hj => exact (hB.cell 9).trans hj
  · intro i g m hg hm
    match i, hg, hm with
    | 0, hg, hm => injection hg with hg; injection hm with hm; subst hg hm; exact KV.on h1 hb
    | 1, hg, hm => injection hg with hg; injection hm with hm; subst hg hm; exact KV.on h2 hb
  · intro m hm
    simp at hm
    rcases hm with rfl | rfl
    · exact o1
    · exact o2

theorem law_Mmult (A0 : Option Addr) (c0 : Nat) (X0 : List Int) (A1 : Option Addr) (c1 : Nat) (X1 : List Int) (k2 k3 : Int) (w : World) (h0 : IntsIn w A0 c0 X0) (h1 : IntsIn w A1 c1 X1) (u2 : -9223372036854775808 ≤ k2) (t2 : k2 ≤ 9223372036854775807) (u3 : -9223372036854775808 ≤ k3) (t3 : k3 ≤ 9223372036854775807) :
    Calls Tryz.prog 3 #[.slice A0 X0.length c0, .slice A1 X1.length c1, .int .i64 k2, .int .i64 k3] w fun e w' => e = .returned (.bool true) ∧ Below w.heap.size w w' := by
  have HX := Lib.hid (And.intro h0 h1)
  have HU := Lib.hid (And.intro (And.intro u2 t2) (And.intro u3 t3))
  have HN1 := Lib.hid fun (W : World) (h : IntsIn W A0 c0 X0) (hl : X0.length ≤ 2147483647) => numbered_any A0 c0 X0 k2 W h hl u2 t2
  have HN2 := Lib.hid fun (W : World) (h : IntsIn W A1 c1 X1) (hl : X1.length ≤ 2147483647) => numbered_any A1 c1 X1 k3 W h hl u3 t3
  obtain ⟨n0, hn0⟩ : ∃ n, n = X0.length := ⟨_, rfl⟩
  obtain ⟨n1, hn1⟩ : ∃ n, n = X1.length := ⟨_, rfl⟩
  rw [← hn0] at HN1
  rw [← hn1] at HN2
  rw [← hn0, ← hn1]
  clear h0 h1 u2 t2 u3 t3 hn0 hn1
  by_cases g0 : 2147483647 < n0
  · go_enter Tryz.func3, Tryz.ntmps3
    go_wp2
    go_ret
    exact ⟨rfl, Below.refl _ _⟩
  · by_cases g1 : 2147483647 < n1
    · go_enter Tryz.func3, Tryz.ntmps3
      go_wp2
      go_ret
      exact ⟨rfl, Below.refl _ _⟩
    · go_enter Tryz.func3, Tryz.ntmps3
      go_wp2_with fail
      (with_reducible refine (HN1.out w HX.out.1 (by omega)).mono ?_)
      rintro e w1 ⟨B1, m1, d1, rows1, rfl, hrs1, hrect1, hb1⟩
      have hx1 : IntsIn w1 A1 c1 X1 := (HX.out.2.below hb1 (Nat.le_refl _)).more hb1.size
      have HX1 := Lib.hid hx1
      have HT1 := Lib.hid (And.intro hrs1 (And.intro hrect1 hb1))
      clear hrs1 hrect1 hb1 hx1
      go_wp2_with fail
      (with_reducible refine (HN2.out w1 HX1.out (by omega)).mono ?_)
      rintro e w2 ⟨B2, m2, d2, rows2, rfl, hrs2, hrect2, hb2⟩
      obtain ⟨r1, rs1, rfl⟩ := List.exists_cons_of_ne_nil HT1.out.2.1.1
      obtain ⟨r2, rs2, rfl⟩ := List.exists_cons_of_ne_nil hrect2.1
      have hv1 : VIs w1 (· < w1.heap.size) ⟨⟨5, 0, 0, ⟨#[]⟩⟩, B1, m1, d1⟩ (mat (r1 :: rs1)) := ⟨rfl, .inr ⟨rfl, HT1.out.1.more fun q hq => hq.2⟩⟩
      have hv2 : VIs w2 (· < w2.heap.size) ⟨⟨5, 0, 0, ⟨#[]⟩⟩, B2, m2, d2⟩ (mat (r2 :: rs2)) := ⟨rfl, .inr ⟨rfl, hrs2.more fun q hq => hq.2⟩⟩
      have hA := argsIn_two w2 _ _ _ _ (KV.on hv1 hb2) hv2 HT1.out.2.1.rect.ok hrect2.rect.ok
      have HA := Lib.hid (And.intro hA (And.intro hrect2 (HT1.out.2.2.trans (hb2.mono HT1.out.2.2.size))))
      clear hv1 hv2 hA hrs2 hrect2 hb2
      go_wp2_with fail
      (with_reducible refine (agree_MMULT _ 0 2 m1 d1 m2 d2 B1 B2 r1 r2 rs1 rs2 _ HT1.out.2.1 HA.out.2.1 HA.out.1).mono ?_)
      rintro e w3 ⟨rfl, hb3⟩
      have hsz := HA.out.2.2.size
      have hbw3 : Below w.heap.size w w3 := (HA.out.2.2.alloc hsz _).trans (hb3.mono (by simp; omega))
      go_wp2
      go_ret
      exact ⟨rfl, hbw3⟩
end

end Go.Proofs.YtdpkjhohklfieaaGreat
