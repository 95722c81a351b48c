/- OR: both doors, agreement, and the laws. -/
import Derived.Test.YtmlcaamgkgdgoaaGreatOf
set_option linter.unusedSimpArgs false
set_option linter.unusedVariables false
namespace Go.Proofs.YtmlcaamgkgdgoaaGreat
open Go.RowKit
set_option maxRecDepth 100000
set_option maxHeartbeats 1000000

theorem door_OR (b off c n : Nat) (L : List Fv) (w : World) (hn : n = L.length) (hok : ∀ x ∈ L, x.of.Ok) (hrow : Row w b off 4 ((L.map Fv.of).map Gl.cells)) (hb : b < w.heap.size) (h0 : 0 < L.length) (h30 : L.length ≤ 30) (hT : ∀ x ∈ L, x.Tr) (h6 : ∀ x ∈ L, x.k ≠ 6) :
    Calls Tryz.prog 39 #[.slice (some ⟨b, off, none⟩) n c] w fun e w' => e = .returned (.agg #[.int .i64 3, .float .f64 (bb (L.any fun x => x.n != 0)), .string ⟨#[]⟩, .slice none 0 0]) ∧ Below w.heap.size w w' := by
  have z0 := Zero4.new w 59
  have hbA : Below w.heap.size w (w.alloc (.cells #[.int .i64 0, .float .f64 0, .string ⟨#[]⟩, .slice none 0 0] 59)) := (Below.refl _ _).alloc (Nat.le_refl _) _
  have HA := Lib.hid (And.intro hrow (And.intro hb hok))
  have HT := Lib.hid (And.intro hT h6)
  have HN := Lib.hid hn
  obtain ⟨r, hr⟩ : ∃ r, r = L.any fun x => x.n != 0 := ⟨_, rfl⟩
  rw [← hr]
  have HR := Lib.hid hr
  clear hrow hb hok hT h6 hn hr
  go_enter Tryz.func39, Tryz.ntmps39
  go_wp2_with fail
  refine (doorFuncs_any _).mono ?_
  rintro e w1 ⟨rfl, hb1⟩
  have hbw1 := hbA.trans (hb1.mono (by simp))
  have z1 := z0.below hb1
  have hin : Hid (Calls Tryz.prog 53 #[.slice (some ⟨b, off, none⟩) n c] w1 fun e w' => e = .returned (.pointer (some ⟨w1.heap.size, 0, none⟩)) ∧ ListPost w1 (faces (L.map Fv.of)) w') := by
    have := innerList_flat b off c (L.map Fv.of) w1 (by intro g hg; obtain ⟨x, hx, rfl⟩ := List.mem_map.1 hg; exact HA.out.2.2 x hx) (HA.out.1.below hbw1 HA.out.2.1) (Nat.lt_of_lt_of_le HA.out.2.1 hbw1.size) (by rw [List.length_map]; omega)
    rw [List.length_map, ← HN.out] at this
    exact Lib.hid this
  go_wp2_with fail
  refine hin.out.mono ?_
  rintro e w2 ⟨rfl, ⟨es, hl⟩, hb2⟩
  have hbw2 := hbw1.trans (hb2.mono hbw1.size)
  have z2 := z1.below hb2
  have HL := Lib.hid hl
  clear hl hin
  go_wp2_with fail
  refine (ff_OR _ _ es L _ HL.out h0 h30 HT.out.1 HT.out.2).mono ?_
  rw [← HR.out]
  rintro e w3 ⟨rfl, hb3⟩
  have hbw3 := hbw2.trans (hb3.mono hbw2.size)
  have z3 := z2.below hb3
  go_wp2_with fail
  refine (doorArg_bool (bb r) _).mono ?_
  rintro e w4 ⟨rfl, hb4⟩
  have hbw := hbw3.trans (hb4.mono hbw3.size)
  obtain ⟨q, q0, q1, q2, q3, qf⟩ := z3.below hb4
  clear z0 z1 z2 z3 hb1 hb2 hb3 hb4 hbw1 hbw2 hbw3 hbA
  go_wp2
  exact bodyPost_ret (v := (.agg #[.int .i64 3, .float .f64 (bb r), .string ⟨#[]⟩, .slice none 0 0])) (by simp [results, Tryz.results39, go_sem, q, q0, q1, q2, q3, qf]) rfl ⟨rfl, (by (repeat' (first | with_reducible exact Below.refl _ _ | with_reducible refine Below.setCell ?_ ?_ _ | with_reducible refine Below.alloc ?_ ?_ _ | with_reducible refine Below.drew ?_ | with_reducible refine Below.trans ?_ (Below.mono (by assumption) ?_))); all_goals (first | omega | (simp [World.setCell]; done) | (simp [World.setCell]; omega)))⟩

theorem impl_OR (A : Option Addr) (c n : Nat) (L : List Fv) (w : World) (hn : n = L.length) (hok : ∀ x ∈ L, x.of.Ok) (hsrc : Src w w.heap.size A 4 (ofs L)) (h0 : 0 < L.length) (h30 : L.length ≤ 30) (hT : ∀ x ∈ L, x.Tr) (h6 : ∀ x ∈ L, x.k ≠ 6) :
    Calls Tryz.prog 17 #[.slice A n c] w fun e w' => e = .returned (.agg #[.int .i64 3, .float .f64 (bb (L.any fun x => x.n != 0)), .string ⟨#[]⟩, .slice none 0 0]) ∧ Below w.heap.size w w' := by
  rcases hsrc with h | ⟨b, off, rfl, hb, hrow⟩
  · exfalso
    have : L = [] := by simpa [ofs] using h
    rw [this] at h0; simp at h0
  have hofs : ofs L = gls (L.map Fv.of) := by simp [ofs, gls, Function.comp_def]
  rw [hofs] at hrow
  have z0 := Zero4.new w 47
  have hbA : Below w.heap.size w (w.alloc (.cells #[.int .i64 0, .float .f64 0, .string ⟨#[]⟩, .slice none 0 0] 47)) := (Below.refl _ _).alloc (Nat.le_refl _) _
  have HA := Lib.hid (And.intro hrow (And.intro hb hok))
  have HT := Lib.hid (And.intro hT h6)
  have HN := Lib.hid hn
  obtain ⟨r, hr⟩ : ∃ r, r = L.any fun x => x.n != 0 := ⟨_, rfl⟩
  rw [← hr]
  have HR := Lib.hid hr
  have hin : Hid (Calls Tryz.prog 35 #[.slice (some ⟨b, off, none⟩) n c] (w.alloc (.cells #[.int .i64 0, .float .f64 0, .string ⟨#[]⟩, .slice none 0 0] 47)) (MadePost 59 4 (gls (L.map Fv.of)) (w.alloc (.cells #[.int .i64 0, .float .f64 0, .string ⟨#[]⟩, .slice none 0 0] 47)))) := by
    have := in_flat b off c (L.map Fv.of) _ (hrow.below hbA hb) (Nat.lt_of_lt_of_le hb hbA.size) (by rw [List.length_map]; omega)
    rw [List.length_map, ← hn] at this
    exact Lib.hid this
  clear hrow hb hok hT h6 hn hofs hr
  go_enter Tryz.func17, Tryz.ntmps17
  go_wp2_with fail
  refine hin.out.mono ?_
  rintro e w1 ⟨v, rfl, hown, hb1⟩
  have hbw1 := hbA.trans (hb1.mono (by simp))
  have z1 := z0.below hb1
  obtain ⟨A2, cap2, rfl, hs2⟩ := hown.src
  rw [show (gls (L.map Fv.of)).length = n by rw [HN.out]; simp [gls]]
  rcases hs2 with h | ⟨b2, off2, rfl, hb2', hrow2⟩
  · exfalso
    have : L = [] := by simpa [gls] using h
    rw [this] at h0; simp at h0
  have HR2 := Lib.hid (And.intro hrow2 hb2')
  clear hown hrow2 hb2' hin
  go_wp2_with fail
  refine (door_OR b2 off2 cap2 n L _ HN.out HA.out.2.2 HR2.out.1 HR2.out.2 h0 h30 HT.out.1 HT.out.2).mono ?_
  rw [← HR.out]
  rintro e w2 ⟨rfl, hb2⟩
  have hbw2 := hbw1.trans (hb2.mono hbw1.size)
  have z2 := z1.below hb2
  go_wp2_with fail
  refine (out_flat 3 (bb r) ⟨#[]⟩ _).mono ?_
  rintro e w3 ⟨rfl, hb3⟩
  have hbw := hbw2.trans (hb3.mono hbw2.size)
  obtain ⟨q, q0, q1, q2, q3, qf⟩ := z2.below hb3
  clear z0 z1 z2 hb1 hb2 hb3 hbw1 hbw2 hbA
  go_wp2
  exact bodyPost_ret (v := (.agg #[.int .i64 3, .float .f64 (bb r), .string ⟨#[]⟩, .slice none 0 0])) (by simp [results, Tryz.results17, go_sem, q, q0, q1, q2, q3, qf]) rfl ⟨rfl, (by (repeat' (first | with_reducible exact Below.refl _ _ | with_reducible refine Below.setCell ?_ ?_ _ | with_reducible refine Below.alloc ?_ ?_ _ | with_reducible refine Below.drew ?_ | with_reducible refine Below.trans ?_ (Below.mono (by assumption) ?_))); all_goals (first | omega | (simp [World.setCell]; done) | (simp [World.setCell]; omega)))⟩

/-- What OR says: nothing, or whether one is true. -/
def OrW (L : List Fv) (y : Fv) : Prop := (y = doubtFv ∧ doubt L = true) ∨ (y = ⟨3, if (L.any fun x => x.n != 0) then 1 else 0, 0, ⟨#[]⟩⟩)
theorem doubt_all (L : List Fv) : (L.all fun x => x.k != 6) = !doubt L := by
  unfold doubt
  induction L with
  | nil => rfl
  | cons x r ih => rw [List.all_cons, List.any_cons, ih]; cases h : x.k == 6 <;> simp [h, bne]

theorem here_OR (b off c n : Nat) (L : List Fv) (w0 : World) (hn : n = L.length) (hrow : Row w0 b off 5 (fvs L)) (hb : b < w0.heap.size) (h0 : 0 < L.length) (h30 : L.length ≤ 30) (hT : AllTr L) :
    Here 72 (⟨#[79, 82]⟩ : ByteArray) (some ⟨b, off, none⟩) n c (FlatP (OrW L)) w0 := by
  intro w hbw
  have HA := Lib.hid (And.intro hrow (And.intro hb (And.intro hT hn)))
  have Z0 := Lib.hid (Zero5.new w)
  obtain ⟨r, hr⟩ : ∃ r, r = L.any fun x => x.n != 0 := ⟨_, rfl⟩
  have HR := Lib.hid hr
  clear hrow hb hT hn hr
  have hto : Hid (Calls Tryz.prog 148 #[.string (⟨#[79, 82]⟩ : ByteArray), .slice (some ⟨b, off, none⟩) n c] (w.alloc (.cells #[.int .i64 0, .int .i64 0, .int .i64 0, .string ⟨#[]⟩, .slice none 0 0] 28)) fun e w' => e = .returned (.agg #[.int .i64 3, .int .i64 (if r then 1 else 0), .int .i64 0, .string ⟨#[]⟩, .slice none 0 0]) ∧ Below (w.alloc (.cells #[.int .i64 0, .int .i64 0, .int .i64 0, .string ⟨#[]⟩, .slice none 0 0] 28)).heap.size (w.alloc (.cells #[.int .i64 0, .int .i64 0, .int .i64 0, .string ⟨#[]⟩, .slice none 0 0] 28)) w') := by
    have hb2 := hbw.alloc hbw.size (.cells #[.int .i64 0, .int .i64 0, .int .i64 0, .string ⟨#[]⟩, .slice none 0 0] 28)
    have := together_OR b off c L _ (HA.out.1.below hb2 HA.out.2.1) (Nat.lt_of_lt_of_le HA.out.2.1 hb2.size) h0 h30 HA.out.2.2.1
    rw [← HA.out.2.2.2, ← HR.out] at this
    exact Lib.hid this
  have hW : Hid (OrW L ⟨3, if r then 1 else 0, 0, ⟨#[]⟩⟩) := Lib.hid (.inr (by rw [HR.out]))
  obtain ⟨nn, hnn⟩ : ∃ nn : Int, nn = if r then 1 else 0 := ⟨_, rfl⟩
  rw [← hnn] at hto hW
  clear hnn
  go_enter Tryz.func72, Tryz.ntmps72
  go_wp2_with fail
  refine hto.out.mono ?_
  rintro e w1 ⟨rfl, hb1⟩
  obtain ⟨q, q0, q1, q2, q3, q4, qf⟩ := Z0.out.below hb1
  clear hto
  go_wp2
  exact bodyPost_ret (v := (.tuple #[(.agg #[.int .i64 3, .int .i64 nn, .int .i64 0, .string ⟨#[]⟩, .slice none 0 0]), .bool true])) (by simp [results, Tryz.results72, go_sem, q, q0, q1, q2, q3, q4, qf]) rfl ⟨⟨⟨3, nn, 0, ⟨#[]⟩⟩, none, 0, 0⟩, rfl, ⟨⟨3, nn, 0, ⟨#[]⟩⟩, hW.out, rfl⟩, (by (repeat' (first | with_reducible exact Below.refl _ _ | with_reducible refine Below.setCell ?_ ?_ _ | with_reducible refine Below.alloc ?_ ?_ _ | with_reducible refine Below.drew ?_ | with_reducible refine Below.trans ?_ (Below.mono (by assumption) ?_))); all_goals (first | omega | (simp [World.setCell]; done) | (simp [World.setCell]; omega)))⟩

theorem agree_OR (b off c : Nat) (L : List Fv) (w : World) (hrow : Row w b off 5 (fvs L)) (hb : b < w.heap.size) (h0 : 0 < L.length) (h30 : L.length ≤ 30) (hT : ∀ x ∈ L, x.Tr) :
    Calls Tryz.prog 12 #[.func (.func 17) #[] #[], .string (⟨#[79, 82]⟩ : ByteArray), .slice (some ⟨b, off, none⟩) L.length c] w fun e w' => e = .returned (.bool true) ∧ Below w.heap.size w w' := by
  have hall : doubt L = false → AllTr L := by
    intro hd x hx
    obtain ⟨_, _, h | ⟨h, _⟩ | h⟩ := hT x hx
    · exact .inl h
    · exact .inr h
    · exfalso
      have : doubt L = true := by unfold doubt; rw [List.any_eq_true]; exact ⟨x, hx, by simp [h]⟩
      rw [hd] at this; cases this
  refine agrees_flat 17 (⟨#[79, 82]⟩ : ByteArray) b off c L (OrW L) ⟨3, bb (L.any fun x => x.n != 0), ⟨#[]⟩⟩ w (fun args W => by kernel_rfl) (fun x hx => (hT x hx).1) hrow hb (by omega) ?_ ?_ ?_ ?_
  · rintro y (⟨hy, _⟩ | hy)
    · subst hy; exact .inl (.inr (.inr (.inr rfl)))
    · subst hy
      refine .inr (.inr ⟨rfl, ?_⟩)
      cases (L.any fun x => x.n != 0)
      · exact .inl rfl
      · exact .inr rfl
  · intro W hW
    have hargs : ∀ W3, Below w.heap.size w W3 → Args W3 (some ⟨b, off, none⟩) (L.map fun x => ⟨x, none, 0, 0⟩) := by
      intro W3 h3
      refine ⟨?_, by rw [List.length_map]; omega, .inr ⟨b, off, rfl, Nat.lt_of_lt_of_le hb h3.size, by rw [List.map_map]; exact hrow.below h3 hb⟩⟩
      intro v hv h2
      obtain ⟨x, hx, rfl⟩ := List.mem_map.1 hv
      obtain ⟨_, _, h | ⟨h, _⟩ | h⟩ := hT x hx <;> (simp only at h2; rw [h] at h2; cases h2)
    have hfits : ∀ W2, Below w.heap.size w W2 → FitsIs (⟨#[79, 82]⟩ : ByteArray) (some ⟨b, off, none⟩) L.length c (L.all fun x => x.k != 6) W2 := by
      intro W2 hW2 W3 hW3
      have hW' := hW2.trans (hW3.mono hW2.size)
      refine fits_choices _ _ _ _ _ W3 ?_ ?_ ?_
      · intro W4 hW4
        have := fitsNumbers_OR _ (L.map fun x => ⟨x, none, 0, 0⟩) c W4 (hargs W4 (hW'.trans (hW4.mono hW'.size)))
        rwa [List.length_map] at this
      · exact fun W4 _ => fitsTexts_OR _ _ _ W4
      · exact fits_OR b off c L W3 (hrow.below hW' hb) (Nat.lt_of_lt_of_le hb hW'.size) h0 h30 hT
    have hd := call_over (⟨#[79, 82]⟩ : ByteArray) (some ⟨b, off, none⟩) L.length c (FlatP (OrW L)) (FlatP.lasts _) W (by
      intro W2 hW2
      have hW' := hW.trans (hW2.mono hW.size)
      have hff := hfits W2 hW'
      rw [doubt_all] at hff
      cases hdl : doubt L
      · rw [hdl] at hff
        exact over_CallLogic _ _ _ _ _ (FlatP.lasts _) W2 hff (Stat_OR _ _ _) (Criteria_OR _ _ _) (Lookup_OR _ _ _) (CallMath_OR _ _ _) (CallText_OR _ _ _) (here_OR b off c _ L W2 rfl (hrow.below hW' hb) (Nat.lt_of_lt_of_le hb hW'.size) h0 h30 (hall hdl))
      · rw [hdl] at hff
        refine (over_doubt _ _ _ _ W2 hff).mono ?_
        rintro e w1 ⟨v, rfl, rfl, hb1⟩
        exact ⟨_, rfl, ⟨doubtFv, .inl ⟨rfl, hdl⟩, rfl⟩, hb1⟩)
    exact hd.mono fun e w1 h => h.flatP
  · intro hd W A cap hsrc
    have h6 : ∀ x ∈ L, x.k ≠ 6 := fun x hx => by rcases hall hd x hx with h | h <;> rw [h] <;> decide
    exact impl_OR A cap L.length L W rfl (fun x hx => Fv.of_ok x (hT x hx).1 (h6 x hx)) hsrc h0 h30 hT h6
  · rintro y (⟨hy, hyd⟩ | hy) hd hk
    · rw [hd] at hyd; cases hyd
    · subst hy
      refine ⟨rfl, rfl, ?_⟩
      rw [Fv.of_eq3]
      cases (L.any fun x => x.n != 0)
      · decide +kernel
      · decide +kernel

theorem fitsChoices_OR0 (w : World) :
    Calls Tryz.prog 94 #[.string (⟨#[79, 82]⟩ : ByteArray), .slice none 0 0] w fun e w' => e = .returned (.tuple #[.bool false, .bool true]) ∧ Below w.heap.size w w' := by
  go_enter Tryz.func94, Tryz.ntmps94
  go_wp2
  go_ret2
  exact ⟨rfl, (by (repeat' (first | with_reducible exact Below.refl _ _ | with_reducible refine Below.setCell ?_ ?_ _ | with_reducible refine Below.alloc ?_ ?_ _ | with_reducible refine Below.drew ?_ | with_reducible refine Below.trans ?_ (Below.mono (by assumption) ?_))); all_goals (first | omega | (simp [World.setCell]; done) | (simp [World.setCell]; omega)))⟩

theorem agree_OR0 (w : World) :
    Calls Tryz.prog 12 #[.func (.func 17) #[] #[], .string (⟨#[79, 82]⟩ : ByteArray), .slice none 0 0] w fun e w' => e = .returned (.bool true) ∧ Below w.heap.size w w' := by
  have hcall : ∀ W, Calls Tryz.prog 30 #[.string (⟨#[79, 82]⟩ : ByteArray), .slice none 0 0] W fun e w' => e = .returned (.agg #[.int .i64 6, .int .i64 0, .int .i64 0, .string ⟨#[]⟩, .slice none 0 0]) ∧ Below W.heap.size W w' := fun W => by
    refine (call_over (⟨#[79, 82]⟩ : ByteArray) none 0 0 (FlatP fun y => y = doubtFv) (FlatP.lasts _) W fun W2 _ => ?_).mono ?_
    · refine (over_doubt _ _ _ _ W2 (fun W3 _ => fits_choices _ _ _ _ _ W3 (fun W4 _ => fitsNumbers_OR none [] 0 W4 ⟨by simp, by simp, .inl ⟨rfl, rfl⟩⟩) (fun W4 _ => fitsTexts_OR _ _ _ W4) (fun W4 _ => fitsChoices_OR0 W4))).mono ?_
      rintro e w1 ⟨v, rfl, rfl, hb1⟩
      exact ⟨_, rfl, ⟨doubtFv, rfl, rfl⟩, hb1⟩
    · rintro e w1 ⟨v, rfl, ⟨y, rfl, rfl⟩, hb⟩
      exact ⟨rfl, hb⟩
  have HC := Lib.hid hcall
  clear hcall
  go_enter Tryz.func12, Tryz.ntmps12
  go_wp2_with fail
  refine (HC.out _).mono ?_
  rintro e w1 ⟨rfl, hb1⟩
  have hz1 := hb1.size
  go_wp2_with (go_at_call 31; refine (table_any _ _ _ _).mono ?_; rintro e w2 ⟨rfl, hb2⟩; obtain ⟨hc2, hf2, hz2⟩ := bcell hb2; try simp only [World.size_alloc, size_setCell] at hz2)
  have t0 : w2.cell? ⟨w1.heap.size + 1, 0, none⟩ = some (.slice none 0 0) := by rw [hc2 _ _ (by simp)]; simp [go_sem]
  have hb12 : Below w1.heap.size w1 w2 := (((Below.refl _ _).alloc (Nat.le_refl _) (.cells #[.int .i64 6, .int .i64 0, .int .i64 0, .string ⟨#[]⟩, .slice none 0 0] 28)).alloc (by simp) (.cells #[.slice none 0 0] 30)).trans (hb2.mono (by simp; omega))
  have hbw2 : Below w.heap.size w w2 := hb1.trans (hb12.mono hz1)
  have k0 : w2.cell? ⟨w1.heap.size, 0, none⟩ = some (.int .i64 6) := by rw [hc2 _ _ (by simp; omega)]; simp [go_sem]
  have k1 : w2.cell? ⟨w1.heap.size, 1, none⟩ = some (.int .i64 0) := by rw [hc2 _ _ (by simp; omega)]; simp [go_sem]
  have k2 : w2.cell? ⟨w1.heap.size, 2, none⟩ = some (.int .i64 0) := by rw [hc2 _ _ (by simp; omega)]; simp [go_sem]
  have k3 : w2.cell? ⟨w1.heap.size, 3, none⟩ = some (.string ⟨#[]⟩) := by rw [hc2 _ _ (by simp; omega)]; simp [go_sem]
  have k4 : w2.cell? ⟨w1.heap.size, 4, none⟩ = some (.slice none 0 0) := by rw [hc2 _ _ (by simp; omega)]; simp [go_sem]
  have hWlt : w1.heap.size < w2.heap.size := by omega
  have hWlt1 : w1.heap.size + 1 < w2.heap.size := by omega
  have hla : Leads 2 w2 w2.heap.size [.int .i64 5, .int .i64 0, .int .i64 0, .string ⟨#[]⟩, .slice (some ⟨w1.heap.size + 1, 0, none⟩) 1 1] [] := leads_nil w2 w2.heap.size (w1.heap.size + 1) 1 t0 hWlt1
  have HD := doubtful_any 2 w2.heap.size 5 0 0 ⟨#[]⟩ (some ⟨w1.heap.size + 1, 0, none⟩) 1 1 [] w2 hla (Nat.le_refl _) (by simp)
  rw [show doubt [] = false from rfl] at HD
  have HDD := Lib.hid HD
  clear hla HD t0 hc2 hf2 hb2 hb12
  go_wp2_with fail
  refine HDD.out.mono ?_
  rintro e w3 ⟨rfl, hb3⟩
  have hbw3 := hbw2.trans (hb3.mono hbw2.size)
  replace k0 := (hb3.cell (p := ⟨w1.heap.size, 0, none⟩) hWlt).trans k0
  replace k1 := (hb3.cell (p := ⟨w1.heap.size, 1, none⟩) hWlt).trans k1
  replace k2 := (hb3.cell (p := ⟨w1.heap.size, 2, none⟩) hWlt).trans k2
  replace k3 := (hb3.cell (p := ⟨w1.heap.size, 3, none⟩) hWlt).trans k3
  replace k4 := (hb3.cell (p := ⟨w1.heap.size, 4, none⟩) hWlt).trans k4
  have HE := doubtful_any 1 w3.heap.size 6 0 0 ⟨#[]⟩ none 0 0 [doubtFv] w3 (leads_leaf doubtFv (by decide)) (Nat.le_refl _) (by simp)
  rw [show doubt [doubtFv] = true from rfl] at HE
  have HEE := Lib.hid HE
  clear HE HDD hb3
  go_wp2_with fail
  refine HEE.out.mono ?_
  rintro e w4 ⟨rfl, hb4⟩
  go_wp2
  go_ret
  exact ⟨rfl, hbw3.trans (hb4.mono hbw3.size)⟩

/-- What an argument gives the law. -/
def BoolsIn (w : World) (A : Option Addr) (c : Nat) (X : List Bool) : Prop := Src w w.heap.size A 1 (X.map fun b => [.bool b])
def IntsIn (w : World) (A : Option Addr) (c : Nat) (X : List Int) : Prop := Src w w.heap.size A 1 (X.map fun b => [.int .i64 b])

theorem law_OR (A : Option Addr) (c : Nat) (X : List Bool) (w : World) (hsrc : BoolsIn w A c X) :
    Calls Tryz.prog 5 #[.slice A X.length c] w fun e w' => e = .returned (.bool true) ∧ Below w.heap.size w w' := by
  obtain ⟨n, hn⟩ : ∃ n, n = X.length := ⟨_, rfl⟩
  rw [← hn]
  have HX := Lib.hid (And.intro hsrc hn)
  clear hsrc hn
  by_cases hbig : 2147483647 < n
  · go_enter Tryz.func5, Tryz.ntmps5
    go_wp2
    go_ret
    exact ⟨rfl, Below.refl _ _⟩
  · by_cases h30 : 30 < n
    · go_enter Tryz.func5, Tryz.ntmps5
      go_wp2
      go_ret
      exact ⟨rfl, Below.refl _ _⟩
    · have HA : Hid (Calls Tryz.prog 18 #[.slice A n c] w (TrPost n w)) := by
        have := argTruths_any A c X w HX.out.1 (by have := HX.out.2; omega)
        rw [← HX.out.2] at this
        exact Lib.hid this
      go_enter Tryz.func5, Tryz.ntmps5
      go_wp2_with fail
      refine HA.out.mono ?_
      rintro e w1 ⟨v, L, rfl, hLl, hLt, hown, hnil, hb1⟩
      by_cases h0 : 0 < n
      · obtain ⟨g, cap, rfl, _, hlt, _, _, hrow⟩ := hown.row (by intro h; have he : L = [] := (by simpa [fvs] using h); rw [he] at hLl; rw [← hLl] at h0; exact absurd h0 (by simp))
        have hle : (fvs L).length = n := by rw [← hLl]; simp [fvs]
        rw [hle]
        have HG : Hid (Calls Tryz.prog 12 #[.func (.func 17) #[] #[], .string (⟨#[79, 82]⟩ : ByteArray), .slice (some ⟨g, 0, none⟩) n cap] w1 fun e w' => e = .returned (.bool true) ∧ Below w1.heap.size w1 w') := by
          have := agree_OR g 0 cap L w1 hrow hlt (by omega) (by omega) hLt
          rw [hLl] at this
          exact Lib.hid this
        clear hrow hown hle hLt hLl hnil HA
        go_wp2_with fail
        refine HG.out.mono ?_
        rintro e w2 ⟨rfl, hb2⟩
        go_wp2
        go_ret
        exact ⟨rfl, hb1.trans (hb2.mono hb1.size)⟩
      · obtain rfl : n = 0 := by omega
        obtain rfl : v = .slice none 0 0 := hnil rfl
        clear hown hLl hLt hnil HA
        go_wp2_with fail
        refine (agree_OR0 w1).mono ?_
        rintro e w2 ⟨rfl, hb2⟩
        go_wp2
        go_ret
        exact ⟨rfl, hb1.trans (hb2.mono hb1.size)⟩

theorem law_ORN (A : Option Addr) (c : Nat) (X : List Int) (w : World) (hsrc : IntsIn w A c X) :
    Calls Tryz.prog 6 #[.slice A X.length c] w fun e w' => e = .returned (.bool true) ∧ Below w.heap.size w w' := by
  obtain ⟨n, hn⟩ : ∃ n, n = X.length := ⟨_, rfl⟩
  rw [← hn]
  have HX := Lib.hid (And.intro hsrc hn)
  clear hsrc hn
  by_cases hbig : 2147483647 < n
  · go_enter Tryz.func6, Tryz.ntmps6
    go_wp2
    go_ret
    exact ⟨rfl, Below.refl _ _⟩
  · by_cases h30 : 30 < n
    · go_enter Tryz.func6, Tryz.ntmps6
      go_wp2
      go_ret
      exact ⟨rfl, Below.refl _ _⟩
    · have HA : Hid (Calls Tryz.prog 19 #[.slice A n c] w (TrPost n w)) := by
        have := argWholes_any A c X w HX.out.1 (by have := HX.out.2; omega)
        rw [← HX.out.2] at this
        exact Lib.hid this
      go_enter Tryz.func6, Tryz.ntmps6
      go_wp2_with fail
      refine HA.out.mono ?_
      rintro e w1 ⟨v, L, rfl, hLl, hLt, hown, hnil, hb1⟩
      by_cases h0 : 0 < n
      · obtain ⟨g, cap, rfl, _, hlt, _, _, hrow⟩ := hown.row (by intro h; have he : L = [] := (by simpa [fvs] using h); rw [he] at hLl; rw [← hLl] at h0; exact absurd h0 (by simp))
        have hle : (fvs L).length = n := by rw [← hLl]; simp [fvs]
        rw [hle]
        have HG : Hid (Calls Tryz.prog 12 #[.func (.func 17) #[] #[], .string (⟨#[79, 82]⟩ : ByteArray), .slice (some ⟨g, 0, none⟩) n cap] w1 fun e w' => e = .returned (.bool true) ∧ Below w1.heap.size w1 w') := by
          have := agree_OR g 0 cap L w1 hrow hlt (by omega) (by omega) hLt
          rw [hLl] at this
          exact Lib.hid this
        clear hrow hown hle hLt hLl hnil HA
        go_wp2_with fail
        refine HG.out.mono ?_
        rintro e w2 ⟨rfl, hb2⟩
        go_wp2
        go_ret
        exact ⟨rfl, hb1.trans (hb2.mono hb1.size)⟩
      · obtain rfl : n = 0 := by omega
        obtain rfl : v = .slice none 0 0 := hnil rfl
        clear hown hLl hLt hnil HA
        go_wp2_with fail
        refine (agree_OR0 w1).mono ?_
        rintro e w2 ⟨rfl, hb2⟩
        go_wp2
        go_ret
        exact ⟨rfl, hb1.trans (hb2.mono hb1.size)⟩

end Go.Proofs.YtmlcaamgkgdgoaaGreat
