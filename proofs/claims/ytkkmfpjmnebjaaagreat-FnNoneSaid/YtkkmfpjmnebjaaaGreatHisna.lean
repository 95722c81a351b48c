/- ISNA: what the reference says of one value, what the package says, and that both agree. -/
import Derived.Test.YtkkmfpjmnebjaaaGreatCs
import Derived.Test.YtkkmfpjmnebjaaaGreatFisna
set_option linter.unusedSimpArgs false
set_option linter.unusedVariables false
namespace Go.Proofs.YtkkmfpjmnebjaaaGreat
open Go.RowKit
set_option maxRecDepth 100000
set_option maxHeartbeats 1000000

theorem door_ISNA (b off c : Nat) (g : Gl) (f : Value) (res : Gl) (w : World) (hok : g.Ok) (hrow : Row w b off 4 [g.cells]) (hb : b < w.heap.size)
    (hf : ∀ (W : World) (p : Addr) (LB E : Nat), List1 W LB E (.iface 78 g.inner) → Calls Tryz.prog 73 #[.pointer (some p), .pointer (some ⟨LB, 0, none⟩)] W fun e w' => e = .returned f ∧ Below W.heap.size W w')
    (ho : Outs f res) :
    Calls Tryz.prog 44 #[.slice (some ⟨b, off, none⟩) 1 c] w fun e w' => e = .returned (.agg #[.int .i64 res.k, .float .f64 res.x, .string res.s, .slice none 0 0]) ∧ Below w.heap.size w w' := by
  have z0 := Zero4.new w 56
  have hbA : Below w.heap.size w (w.alloc (.cells #[.int .i64 0, .float .f64 0, .string ⟨#[]⟩, .slice none 0 0] 56)) := (Below.refl _ _).alloc (Nat.le_refl _) _
  go_enter Tryz.func44, Tryz.ntmps44
  go_wp2_with fail
  refine (doorFuncs_any _).mono ?_
  rintro e w1 ⟨rfl, hb1⟩
  have hbw1 := hbA.trans (hb1.mono (by simp))
  have z1 := z0.below hb1
  go_wp2_with fail
  refine (innerList_flat b off c [g] _ (by intro x hx; simp at hx; subst hx; exact hok) (hrow.below hbw1 hb) (Nat.lt_of_lt_of_le hb hbw1.size) (by simp)).mono ?_
  rintro e w2 ⟨rfl, ⟨es, hl⟩, hb2⟩
  obtain ⟨E, h1⟩ := hl.one
  have hbw2 := hbw1.trans (hb2.mono hbw1.size)
  have z2 := z1.below hb2
  go_wp2_with fail
  refine (hf _ _ _ _ h1).mono ?_
  rintro e w3 ⟨rfl, hb3⟩
  have hbw3 := hbw2.trans (hb3.mono hbw2.size)
  have z3 := z2.below hb3
  go_wp2_with fail
  refine (ho _).mono ?_
  rintro e w4 ⟨rfl, hb4⟩
  have hbw := hbw3.trans (hb4.mono hbw3.size)
  obtain ⟨q, q0, q1, q2, q3, qf⟩ := z3.below hb4
  clear z0 z1 z2 z3 hb1 hb2 hb3 hb4 hbw1 hbw2 hbw3 hbA hl h1 hrow hok
  go_wp2
  exact bodyPost_ret (v := (.agg #[.int .i64 res.k, .float .f64 res.x, .string res.s, .slice none 0 0])) (by simp [results, Tryz.results44, go_sem, q, q0, q1, q2, q3, qf]) rfl ⟨rfl, (by (repeat' (first | with_reducible exact Below.refl _ _ | with_reducible refine Below.setCell ?_ ?_ _ | with_reducible refine Below.alloc ?_ ?_ _ | with_reducible refine Below.drew ?_ | with_reducible refine Below.trans ?_ (Below.mono (by assumption) ?_))); all_goals (first | omega | (simp [World.setCell]; done) | (simp [World.setCell]; omega)))⟩

theorem impl_ISNA (A : Option Addr) (c : Nat) (g : Gl) (f : Value) (res : Gl) (w : World) (hok : g.Ok) (hsrc : Src w w.heap.size A 4 [g.cells])
    (hf : ∀ (W : World) (p : Addr) (LB E : Nat), List1 W LB E (.iface 78 g.inner) → Calls Tryz.prog 73 #[.pointer (some p), .pointer (some ⟨LB, 0, none⟩)] W fun e w' => e = .returned f ∧ Below W.heap.size W w')
    (ho : Outs f res) :
    Calls Tryz.prog 17 #[.slice A 1 c] w fun e w' => e = .returned (.agg #[.int .i64 res.k, .float .f64 res.x, .string res.s, .slice none 0 0]) ∧ Below w.heap.size w w' := by
  rcases hsrc with h | ⟨b, off, rfl, hb, hrow⟩
  · cases h
  have z0 := Zero4.new w 50
  have hbA : Below w.heap.size w (w.alloc (.cells #[.int .i64 0, .float .f64 0, .string ⟨#[]⟩, .slice none 0 0] 50)) := (Below.refl _ _).alloc (Nat.le_refl _) _
  go_enter Tryz.func17, Tryz.ntmps17
  go_wp2_with fail
  refine (in_flat b off c [g] _ (hrow.below hbA hb) (Nat.lt_of_lt_of_le hb hbA.size) (by simp)).mono ?_
  rintro e w1 ⟨v, rfl, hown, hb1⟩
  have hbw1 := hbA.trans (hb1.mono (by simp))
  have z1 := z0.below hb1
  obtain ⟨A2, cap2, rfl, hs2⟩ := hown.src
  rcases hs2 with h | ⟨b2, off2, rfl, hb2', hrow2⟩
  · cases h
  go_wp2_with fail
  refine (door_ISNA b2 off2 cap2 g f res _ hok hrow2 hb2' hf ho).mono ?_
  rintro e w2 ⟨rfl, hb2⟩
  have hbw2 := hbw1.trans (hb2.mono hbw1.size)
  have z2 := z1.below hb2
  go_wp2_with fail
  refine (out_flat res.k res.x res.s _).mono ?_
  rintro e w3 ⟨rfl, hb3⟩
  have hbw := hbw2.trans (hb3.mono hbw2.size)
  obtain ⟨q, q0, q1, q2, q3, qf⟩ := z2.below hb3
  clear z0 z1 z2 hb1 hb2 hb3 hbw1 hbw2 hbA hown hrow hrow2 hok
  go_wp2
  exact bodyPost_ret (v := (.agg #[.int .i64 res.k, .float .f64 res.x, .string res.s, .slice none 0 0])) (by simp [results, Tryz.results17, go_sem, q, q0, q1, q2, q3, qf]) rfl ⟨rfl, (by (repeat' (first | with_reducible exact Below.refl _ _ | with_reducible refine Below.setCell ?_ ?_ _ | with_reducible refine Below.alloc ?_ ?_ _ | with_reducible refine Below.drew ?_ | with_reducible refine Below.trans ?_ (Below.mono (by assumption) ?_))); all_goals (first | omega | (simp [World.setCell]; done) | (simp [World.setCell]; omega)))⟩

theorem core_ISNA (b off c : Nat) (x : Fv) (s : ByteArray) (Pw : Fv → Prop) (f : Value) (res : Gl) (w : World) (hx : x.Made s) (hs : s.size ≤ 1000) (hrow : Row w b off 5 [x.cells]) (hb : b < w.heap.size)
    (hw : ∀ y, Pw y → y.Ok)
    (ht : x.k ≠ 6 → ∀ W : World, Calls Tryz.prog 172 #[.string (⟨#[73, 83, 78, 65]⟩ : ByteArray), (.agg #[.int .i64 x.k, .int .i64 x.n, .int .i64 x.d, .string x.s, .slice none 0 0])] W fun e w' => ∃ y, Pw y ∧ e = .returned (.agg #[.int .i64 y.k, .int .i64 y.n, .int .i64 y.d, .string y.s, .slice none 0 0]) ∧ Below W.heap.size W w')
    (hf : x.k ≠ 6 → ∀ (W : World) (p : Addr) (LB E : Nat), List1 W LB E (.iface 78 x.of.inner) → Calls Tryz.prog 73 #[.pointer (some p), .pointer (some ⟨LB, 0, none⟩)] W fun e w' => e = .returned f ∧ Below W.heap.size W w')
    (ho : x.k ≠ 6 → Outs f res)
    (hr : ∀ y, Pw y → x.k ≠ 6 → y.k ≠ 6 → res.k = y.k ∧ res.s = y.s ∧ (FloatKind.f64.format.order res.x y.of.x != some .eq) = false) :
    Calls Tryz.prog 16 #[.func (.func 17) #[] #[], .string (⟨#[73, 83, 78, 65]⟩ : ByteArray), .slice (some ⟨b, off, none⟩) 1 c] w fun e w' => e = .returned (.bool true) ∧ Below w.heap.size w w' := by
  have h5 := hx.1.ne5
  have hargs : ∀ W, Below w.heap.size w W → Args W (some ⟨b, off, none⟩) [⟨x, none, 0, 0⟩] := by
    intro W hW
    refine ⟨?_, by simp, .inr ⟨b, off, rfl, Nat.lt_of_lt_of_le hb hW.size, hrow.below hW hb⟩⟩
    intro v hv
    simp at hv; subst hv
    intro h2
    exact ⟨by have := hx.2.2.1 h2; simp only at this ⊢; rw [this]; exact hs, rfl, rfl, rfl⟩
  have hone : ∀ W, Below w.heap.size w W → One W b off x := fun W hW => One.of_row (hrow.below hW hb) (Nat.lt_of_lt_of_le hb hW.size)
  have hfits : ∀ W, Below w.heap.size w W → FitsIs (⟨#[73, 83, 78, 65]⟩ : ByteArray) (some ⟨b, off, none⟩) 1 c (x.k != 6) W := by
    intro W hW W2 hW2
    have hW' := hW.trans (hW2.mono hW.size)
    refine fits_choices _ _ _ _ _ W2 ?_ ?_ ?_
    · exact fun W3 hW3 => fitsNumbers_ISNA _ [⟨x, none, 0, 0⟩] c W3 (hargs W3 (hW'.trans (hW3.mono hW'.size)))
    · exact fun W3 _ => fitsTexts_ISNA _ _ _ W3
    · exact fitsOne_ISNA b off c x W2 h5 (hone W2 hW')
  by_cases h6 : x.k = 6
  · refine agrees_flat 17 (⟨#[73, 83, 78, 65]⟩ : ByteArray) b off c [x] (fun y => y = doubtFv) res w (fun args W => by kernel_rfl) (by intro y hy; simp at hy; subst hy; exact hx.1) hrow hb (by simp) (by intro y hy; subst hy; exact .inl (.inr (.inr (.inr rfl)))) ?_ ?_ ?_
    · intro W hW
      have hd := call_over (⟨#[73, 83, 78, 65]⟩ : ByteArray) (some ⟨b, off, none⟩) 1 c (FlatP fun y => y = doubtFv) (FlatP.lasts _) W (by
        intro W2 hW2
        have hW' := hW.trans (hW2.mono hW.size)
        refine (over_doubt _ _ _ _ W2 ?_).mono ?_
        · have := hfits W2 hW'
          rw [h6] at this
          exact this
        · rintro e w1 ⟨v, rfl, rfl, hb1⟩
          exact ⟨_, rfl, ⟨doubtFv, rfl, rfl⟩, hb1⟩)
      exact hd.mono fun e w1 h => h.flatP
    · intro hd
      simp [doubt, h6] at hd
    · intro y hy hd
      simp [doubt, h6] at hd
  · refine agrees_flat 17 (⟨#[73, 83, 78, 65]⟩ : ByteArray) b off c [x] Pw res w (fun args W => by kernel_rfl) (by intro y hy; simp at hy; subst hy; exact hx.1) hrow hb (by simp) hw ?_ ?_ ?_
    · intro W hW
      have hd := call_over (⟨#[73, 83, 78, 65]⟩ : ByteArray) (some ⟨b, off, none⟩) 1 c (FlatP Pw) (FlatP.lasts _) W (by
        intro W2 hW2
        have hW' := hW.trans (hW2.mono hW.size)
        have hff := hfits W2 hW'
        rw [show (x.k != 6) = true by simpa using h6] at hff
        exact over_CallInfo _ _ _ _ _ (FlatP.lasts _) W2 hff (Stat_ISNA _ _ _) (Criteria_ISNA _ _ _) (Lookup_ISNA _ _ _) (CallMath_ISNA _ _ _) (CallText_ISNA _ _ _) (CallLogic_ISNA _ _ _) (infoOne_ISNA b off c x Pw W2 h5 h6 (hone W2 hW') (ht h6)))
      exact hd.mono fun e w1 h => h.flatP
    · intro _ W A cap hsrc
      exact impl_ISNA A cap x.of f res W (Fv.of_ok x hx.1 h6) hsrc (hf h6) (ho h6)
    · intro y hy _ hk
      exact hr y hy h6 hk


theorem case_ISNA_0 (b off c : Nat) (n d : Int) (s : ByteArray) (t : ByteArray) (w : World) (hx : (⟨0, n, d, s⟩ : Fv).Made t) (hs : t.size ≤ 1000) (hrow : Row w b off 5 [(⟨0, n, d, s⟩ : Fv).cells]) (hb : b < w.heap.size) :
    Calls Tryz.prog 16 #[.func (.func 17) #[] #[], .string (⟨#[73, 83, 78, 65]⟩ : ByteArray), .slice (some ⟨b, off, none⟩) 1 c] w fun e w' => e = .returned (.bool true) ∧ Below w.heap.size w w' := by
  refine core_ISNA b off c ⟨0, n, d, s⟩ t (fun y => y = ⟨3, 0, 0, ⟨#[]⟩⟩) (.agg #[.string ⟨#[]⟩, .float .f64 (bb false), .string ⟨#[]⟩, .slice none 0 0, .slice none 0 0, .bool true, .string ⟨#[]⟩, .int .u8 1, .pointer none, .pointer none]) ⟨3, bb false, ⟨#[]⟩⟩ w hx hs hrow hb ?_ ?_ ?_ ?_ ?_
  · intro y hy; subst hy; exact .inr (.inr ⟨rfl, .inl rfl⟩)
  · intro _ W; exact (told_ISNA_0 n d s W).mono fun e w1 h => ⟨_, rfl, h.1, h.2⟩
  · intro _ W p LB E h
    have e : (⟨0, n, d, s⟩ : Fv).of.inner = (.agg #[.string ⟨#[]⟩, .float .f64 0, .string ⟨#[]⟩, .slice none 0 0, .slice none 0 0, .bool false, .string ⟨#[]⟩, .int .u8 6, .pointer none, .pointer none]) := by simp [Fv.of, Gl.inner]
    rw [e] at h
    exact ff_ISNA_0 p LB E W h
  · intro _; exact fun W => doorArg_bool _ W
  · intro y hy _ _; subst hy; exact ⟨rfl, rfl, by decide +kernel⟩


theorem case_ISNA_1 (b off c : Nat) (n d : Int) (s : ByteArray) (t : ByteArray) (w : World) (hx : (⟨1, n, d, s⟩ : Fv).Made t) (hs : t.size ≤ 1000) (hrow : Row w b off 5 [(⟨1, n, d, s⟩ : Fv).cells]) (hb : b < w.heap.size) :
    Calls Tryz.prog 16 #[.func (.func 17) #[] #[], .string (⟨#[73, 83, 78, 65]⟩ : ByteArray), .slice (some ⟨b, off, none⟩) 1 c] w fun e w' => e = .returned (.bool true) ∧ Below w.heap.size w w' := by
  refine core_ISNA b off c ⟨1, n, d, s⟩ t (fun y => y = ⟨3, 0, 0, ⟨#[]⟩⟩) (.agg #[.string ⟨#[]⟩, .float .f64 (bb false), .string ⟨#[]⟩, .slice none 0 0, .slice none 0 0, .bool true, .string ⟨#[]⟩, .int .u8 1, .pointer none, .pointer none]) ⟨3, bb false, ⟨#[]⟩⟩ w hx hs hrow hb ?_ ?_ ?_ ?_ ?_
  · intro y hy; subst hy; exact .inr (.inr ⟨rfl, .inl rfl⟩)
  · intro _ W; exact (told_ISNA_1 n d s W).mono fun e w1 h => ⟨_, rfl, h.1, h.2⟩
  · intro _ W p LB E h
    have e : (⟨1, n, d, s⟩ : Fv).of.inner = (.agg #[.string ⟨#[]⟩, .float .f64 (Fl.clean (Fl.nb n d)), .string ⟨#[]⟩, .slice none 0 0, .slice none 0 0, .bool false, .string ⟨#[]⟩, .int .u8 1, .pointer none, .pointer none]) := by simp [Fv.of, Gl.inner]
    rw [e] at h
    exact ff_ISNA_1 p LB E _ W h
  · intro _; exact fun W => doorArg_bool _ W
  · intro y hy _ _; subst hy; exact ⟨rfl, rfl, by decide +kernel⟩


theorem case_ISNA_2 (b off c : Nat) (n d : Int) (s : ByteArray) (t : ByteArray) (w : World) (hx : (⟨2, n, d, s⟩ : Fv).Made t) (hs : t.size ≤ 1000) (hrow : Row w b off 5 [(⟨2, n, d, s⟩ : Fv).cells]) (hb : b < w.heap.size) :
    Calls Tryz.prog 16 #[.func (.func 17) #[] #[], .string (⟨#[73, 83, 78, 65]⟩ : ByteArray), .slice (some ⟨b, off, none⟩) 1 c] w fun e w' => e = .returned (.bool true) ∧ Below w.heap.size w w' := by
  refine core_ISNA b off c ⟨2, n, d, s⟩ t (fun y => y = ⟨3, 0, 0, ⟨#[]⟩⟩) (.agg #[.string ⟨#[]⟩, .float .f64 (bb false), .string ⟨#[]⟩, .slice none 0 0, .slice none 0 0, .bool true, .string ⟨#[]⟩, .int .u8 1, .pointer none, .pointer none]) ⟨3, bb false, ⟨#[]⟩⟩ w hx hs hrow hb ?_ ?_ ?_ ?_ ?_
  · intro y hy; subst hy; exact .inr (.inr ⟨rfl, .inl rfl⟩)
  · intro _ W; exact (told_ISNA_2 n d s W).mono fun e w1 h => ⟨_, rfl, h.1, h.2⟩
  · intro _ W p LB E h
    have e : (⟨2, n, d, s⟩ : Fv).of.inner = (.agg #[.string ⟨#[]⟩, .float .f64 0, .string s, .slice none 0 0, .slice none 0 0, .bool false, .string ⟨#[]⟩, .int .u8 2, .pointer none, .pointer none]) := by simp [Fv.of, Gl.inner]
    rw [e] at h
    exact ff_ISNA_2 p LB E _ W h
  · intro _; exact fun W => doorArg_bool _ W
  · intro y hy _ _; subst hy; exact ⟨rfl, rfl, by decide +kernel⟩


theorem case_ISNA_3 (b off c : Nat) (n d : Int) (s : ByteArray) (t : ByteArray) (w : World) (hx : (⟨3, n, d, s⟩ : Fv).Made t) (hs : t.size ≤ 1000) (hrow : Row w b off 5 [(⟨3, n, d, s⟩ : Fv).cells]) (hb : b < w.heap.size) :
    Calls Tryz.prog 16 #[.func (.func 17) #[] #[], .string (⟨#[73, 83, 78, 65]⟩ : ByteArray), .slice (some ⟨b, off, none⟩) 1 c] w fun e w' => e = .returned (.bool true) ∧ Below w.heap.size w w' := by
  refine core_ISNA b off c ⟨3, n, d, s⟩ t (fun y => y = ⟨3, 0, 0, ⟨#[]⟩⟩) (.agg #[.string ⟨#[]⟩, .float .f64 (bb false), .string ⟨#[]⟩, .slice none 0 0, .slice none 0 0, .bool true, .string ⟨#[]⟩, .int .u8 1, .pointer none, .pointer none]) ⟨3, bb false, ⟨#[]⟩⟩ w hx hs hrow hb ?_ ?_ ?_ ?_ ?_
  · intro y hy; subst hy; exact .inr (.inr ⟨rfl, .inl rfl⟩)
  · intro _ W; exact (told_ISNA_3 n d s W).mono fun e w1 h => ⟨_, rfl, h.1, h.2⟩
  · intro _ W p LB E h
    have e : (⟨3, n, d, s⟩ : Fv).of.inner = (.agg #[.string ⟨#[]⟩, .float .f64 (floatOfInt .f64 n), .string ⟨#[]⟩, .slice none 0 0, .slice none 0 0, .bool true, .string ⟨#[]⟩, .int .u8 1, .pointer none, .pointer none]) := by simp [Fv.of, Gl.inner]
    rw [e] at h
    exact ff_ISNA_3 p LB E _ W h
  · intro _; exact fun W => doorArg_bool _ W
  · intro y hy _ _; subst hy; exact ⟨rfl, rfl, by decide +kernel⟩


theorem case_ISNA_4_0 (b off c : Nat) (n d : Int) (t : ByteArray) (w : World) (hx : (⟨4, n, d, (⟨#[35, 78, 85, 76, 76, 33]⟩ : ByteArray)⟩ : Fv).Made t) (hs : t.size ≤ 1000) (hrow : Row w b off 5 [(⟨4, n, d, (⟨#[35, 78, 85, 76, 76, 33]⟩ : ByteArray)⟩ : Fv).cells]) (hb : b < w.heap.size) :
    Calls Tryz.prog 16 #[.func (.func 17) #[] #[], .string (⟨#[73, 83, 78, 65]⟩ : ByteArray), .slice (some ⟨b, off, none⟩) 1 c] w fun e w' => e = .returned (.bool true) ∧ Below w.heap.size w w' := by
  refine core_ISNA b off c ⟨4, n, d, (⟨#[35, 78, 85, 76, 76, 33]⟩ : ByteArray)⟩ t (fun y => y = ⟨3, 0, 0, ⟨#[]⟩⟩) (.agg #[.string ⟨#[]⟩, .float .f64 (bb false), .string ⟨#[]⟩, .slice none 0 0, .slice none 0 0, .bool true, .string ⟨#[]⟩, .int .u8 1, .pointer none, .pointer none]) ⟨3, bb false, ⟨#[]⟩⟩ w hx hs hrow hb ?_ ?_ ?_ ?_ ?_
  · intro y hy; subst hy; exact .inr (.inr ⟨rfl, .inl rfl⟩)
  · intro _ W; exact (told_ISNA_4n n d (⟨#[35, 78, 85, 76, 76, 33]⟩ : ByteArray) W (by decide +kernel)).mono fun e w1 h => ⟨_, rfl, h.1, h.2⟩
  · intro _ W p LB E h
    have e : (⟨4, n, d, (⟨#[35, 78, 85, 76, 76, 33]⟩ : ByteArray)⟩ : Fv).of.inner = (.agg #[.string ⟨#[]⟩, .float .f64 0, .string (⟨#[35, 78, 85, 76, 76, 33]⟩ : ByteArray), .slice none 0 0, .slice none 0 0, .bool false, .string (⟨#[35, 78, 85, 76, 76, 33]⟩ : ByteArray), .int .u8 5, .pointer none, .pointer none]) := by simp [Fv.of, Gl.inner]
    rw [e] at h
    exact ff_ISNA_4n p LB E _ (by decide +kernel) W h
  · intro _; exact fun W => doorArg_bool _ W
  · intro y hy _ _; subst hy; exact ⟨rfl, rfl, by decide +kernel⟩


theorem case_ISNA_4_1 (b off c : Nat) (n d : Int) (t : ByteArray) (w : World) (hx : (⟨4, n, d, (⟨#[35, 68, 73, 86, 47, 48, 33]⟩ : ByteArray)⟩ : Fv).Made t) (hs : t.size ≤ 1000) (hrow : Row w b off 5 [(⟨4, n, d, (⟨#[35, 68, 73, 86, 47, 48, 33]⟩ : ByteArray)⟩ : Fv).cells]) (hb : b < w.heap.size) :
    Calls Tryz.prog 16 #[.func (.func 17) #[] #[], .string (⟨#[73, 83, 78, 65]⟩ : ByteArray), .slice (some ⟨b, off, none⟩) 1 c] w fun e w' => e = .returned (.bool true) ∧ Below w.heap.size w w' := by
  refine core_ISNA b off c ⟨4, n, d, (⟨#[35, 68, 73, 86, 47, 48, 33]⟩ : ByteArray)⟩ t (fun y => y = ⟨3, 0, 0, ⟨#[]⟩⟩) (.agg #[.string ⟨#[]⟩, .float .f64 (bb false), .string ⟨#[]⟩, .slice none 0 0, .slice none 0 0, .bool true, .string ⟨#[]⟩, .int .u8 1, .pointer none, .pointer none]) ⟨3, bb false, ⟨#[]⟩⟩ w hx hs hrow hb ?_ ?_ ?_ ?_ ?_
  · intro y hy; subst hy; exact .inr (.inr ⟨rfl, .inl rfl⟩)
  · intro _ W; exact (told_ISNA_4n n d (⟨#[35, 68, 73, 86, 47, 48, 33]⟩ : ByteArray) W (by decide +kernel)).mono fun e w1 h => ⟨_, rfl, h.1, h.2⟩
  · intro _ W p LB E h
    have e : (⟨4, n, d, (⟨#[35, 68, 73, 86, 47, 48, 33]⟩ : ByteArray)⟩ : Fv).of.inner = (.agg #[.string ⟨#[]⟩, .float .f64 0, .string (⟨#[35, 68, 73, 86, 47, 48, 33]⟩ : ByteArray), .slice none 0 0, .slice none 0 0, .bool false, .string (⟨#[35, 68, 73, 86, 47, 48, 33]⟩ : ByteArray), .int .u8 5, .pointer none, .pointer none]) := by simp [Fv.of, Gl.inner]
    rw [e] at h
    exact ff_ISNA_4n p LB E _ (by decide +kernel) W h
  · intro _; exact fun W => doorArg_bool _ W
  · intro y hy _ _; subst hy; exact ⟨rfl, rfl, by decide +kernel⟩


theorem case_ISNA_4_2 (b off c : Nat) (n d : Int) (t : ByteArray) (w : World) (hx : (⟨4, n, d, (⟨#[35, 86, 65, 76, 85, 69, 33]⟩ : ByteArray)⟩ : Fv).Made t) (hs : t.size ≤ 1000) (hrow : Row w b off 5 [(⟨4, n, d, (⟨#[35, 86, 65, 76, 85, 69, 33]⟩ : ByteArray)⟩ : Fv).cells]) (hb : b < w.heap.size) :
    Calls Tryz.prog 16 #[.func (.func 17) #[] #[], .string (⟨#[73, 83, 78, 65]⟩ : ByteArray), .slice (some ⟨b, off, none⟩) 1 c] w fun e w' => e = .returned (.bool true) ∧ Below w.heap.size w w' := by
  refine core_ISNA b off c ⟨4, n, d, (⟨#[35, 86, 65, 76, 85, 69, 33]⟩ : ByteArray)⟩ t (fun y => y = ⟨3, 0, 0, ⟨#[]⟩⟩) (.agg #[.string ⟨#[]⟩, .float .f64 (bb false), .string ⟨#[]⟩, .slice none 0 0, .slice none 0 0, .bool true, .string ⟨#[]⟩, .int .u8 1, .pointer none, .pointer none]) ⟨3, bb false, ⟨#[]⟩⟩ w hx hs hrow hb ?_ ?_ ?_ ?_ ?_
  · intro y hy; subst hy; exact .inr (.inr ⟨rfl, .inl rfl⟩)
  · intro _ W; exact (told_ISNA_4n n d (⟨#[35, 86, 65, 76, 85, 69, 33]⟩ : ByteArray) W (by decide +kernel)).mono fun e w1 h => ⟨_, rfl, h.1, h.2⟩
  · intro _ W p LB E h
    have e : (⟨4, n, d, (⟨#[35, 86, 65, 76, 85, 69, 33]⟩ : ByteArray)⟩ : Fv).of.inner = (.agg #[.string ⟨#[]⟩, .float .f64 0, .string (⟨#[35, 86, 65, 76, 85, 69, 33]⟩ : ByteArray), .slice none 0 0, .slice none 0 0, .bool false, .string (⟨#[35, 86, 65, 76, 85, 69, 33]⟩ : ByteArray), .int .u8 5, .pointer none, .pointer none]) := by simp [Fv.of, Gl.inner]
    rw [e] at h
    exact ff_ISNA_4n p LB E _ (by decide +kernel) W h
  · intro _; exact fun W => doorArg_bool _ W
  · intro y hy _ _; subst hy; exact ⟨rfl, rfl, by decide +kernel⟩


theorem case_ISNA_4_3 (b off c : Nat) (n d : Int) (t : ByteArray) (w : World) (hx : (⟨4, n, d, (⟨#[35, 82, 69, 70, 33]⟩ : ByteArray)⟩ : Fv).Made t) (hs : t.size ≤ 1000) (hrow : Row w b off 5 [(⟨4, n, d, (⟨#[35, 82, 69, 70, 33]⟩ : ByteArray)⟩ : Fv).cells]) (hb : b < w.heap.size) :
    Calls Tryz.prog 16 #[.func (.func 17) #[] #[], .string (⟨#[73, 83, 78, 65]⟩ : ByteArray), .slice (some ⟨b, off, none⟩) 1 c] w fun e w' => e = .returned (.bool true) ∧ Below w.heap.size w w' := by
  refine core_ISNA b off c ⟨4, n, d, (⟨#[35, 82, 69, 70, 33]⟩ : ByteArray)⟩ t (fun y => y = ⟨3, 0, 0, ⟨#[]⟩⟩) (.agg #[.string ⟨#[]⟩, .float .f64 (bb false), .string ⟨#[]⟩, .slice none 0 0, .slice none 0 0, .bool true, .string ⟨#[]⟩, .int .u8 1, .pointer none, .pointer none]) ⟨3, bb false, ⟨#[]⟩⟩ w hx hs hrow hb ?_ ?_ ?_ ?_ ?_
  · intro y hy; subst hy; exact .inr (.inr ⟨rfl, .inl rfl⟩)
  · intro _ W; exact (told_ISNA_4n n d (⟨#[35, 82, 69, 70, 33]⟩ : ByteArray) W (by decide +kernel)).mono fun e w1 h => ⟨_, rfl, h.1, h.2⟩
  · intro _ W p LB E h
    have e : (⟨4, n, d, (⟨#[35, 82, 69, 70, 33]⟩ : ByteArray)⟩ : Fv).of.inner = (.agg #[.string ⟨#[]⟩, .float .f64 0, .string (⟨#[35, 82, 69, 70, 33]⟩ : ByteArray), .slice none 0 0, .slice none 0 0, .bool false, .string (⟨#[35, 82, 69, 70, 33]⟩ : ByteArray), .int .u8 5, .pointer none, .pointer none]) := by simp [Fv.of, Gl.inner]
    rw [e] at h
    exact ff_ISNA_4n p LB E _ (by decide +kernel) W h
  · intro _; exact fun W => doorArg_bool _ W
  · intro y hy _ _; subst hy; exact ⟨rfl, rfl, by decide +kernel⟩


theorem case_ISNA_4_4 (b off c : Nat) (n d : Int) (t : ByteArray) (w : World) (hx : (⟨4, n, d, (⟨#[35, 78, 65, 77, 69, 63]⟩ : ByteArray)⟩ : Fv).Made t) (hs : t.size ≤ 1000) (hrow : Row w b off 5 [(⟨4, n, d, (⟨#[35, 78, 65, 77, 69, 63]⟩ : ByteArray)⟩ : Fv).cells]) (hb : b < w.heap.size) :
    Calls Tryz.prog 16 #[.func (.func 17) #[] #[], .string (⟨#[73, 83, 78, 65]⟩ : ByteArray), .slice (some ⟨b, off, none⟩) 1 c] w fun e w' => e = .returned (.bool true) ∧ Below w.heap.size w w' := by
  refine core_ISNA b off c ⟨4, n, d, (⟨#[35, 78, 65, 77, 69, 63]⟩ : ByteArray)⟩ t (fun y => y = ⟨3, 0, 0, ⟨#[]⟩⟩) (.agg #[.string ⟨#[]⟩, .float .f64 (bb false), .string ⟨#[]⟩, .slice none 0 0, .slice none 0 0, .bool true, .string ⟨#[]⟩, .int .u8 1, .pointer none, .pointer none]) ⟨3, bb false, ⟨#[]⟩⟩ w hx hs hrow hb ?_ ?_ ?_ ?_ ?_
  · intro y hy; subst hy; exact .inr (.inr ⟨rfl, .inl rfl⟩)
  · intro _ W; exact (told_ISNA_4n n d (⟨#[35, 78, 65, 77, 69, 63]⟩ : ByteArray) W (by decide +kernel)).mono fun e w1 h => ⟨_, rfl, h.1, h.2⟩
  · intro _ W p LB E h
    have e : (⟨4, n, d, (⟨#[35, 78, 65, 77, 69, 63]⟩ : ByteArray)⟩ : Fv).of.inner = (.agg #[.string ⟨#[]⟩, .float .f64 0, .string (⟨#[35, 78, 65, 77, 69, 63]⟩ : ByteArray), .slice none 0 0, .slice none 0 0, .bool false, .string (⟨#[35, 78, 65, 77, 69, 63]⟩ : ByteArray), .int .u8 5, .pointer none, .pointer none]) := by simp [Fv.of, Gl.inner]
    rw [e] at h
    exact ff_ISNA_4n p LB E _ (by decide +kernel) W h
  · intro _; exact fun W => doorArg_bool _ W
  · intro y hy _ _; subst hy; exact ⟨rfl, rfl, by decide +kernel⟩


theorem case_ISNA_4_5 (b off c : Nat) (n d : Int) (t : ByteArray) (w : World) (hx : (⟨4, n, d, (⟨#[35, 78, 85, 77, 33]⟩ : ByteArray)⟩ : Fv).Made t) (hs : t.size ≤ 1000) (hrow : Row w b off 5 [(⟨4, n, d, (⟨#[35, 78, 85, 77, 33]⟩ : ByteArray)⟩ : Fv).cells]) (hb : b < w.heap.size) :
    Calls Tryz.prog 16 #[.func (.func 17) #[] #[], .string (⟨#[73, 83, 78, 65]⟩ : ByteArray), .slice (some ⟨b, off, none⟩) 1 c] w fun e w' => e = .returned (.bool true) ∧ Below w.heap.size w w' := by
  refine core_ISNA b off c ⟨4, n, d, (⟨#[35, 78, 85, 77, 33]⟩ : ByteArray)⟩ t (fun y => y = ⟨3, 0, 0, ⟨#[]⟩⟩) (.agg #[.string ⟨#[]⟩, .float .f64 (bb false), .string ⟨#[]⟩, .slice none 0 0, .slice none 0 0, .bool true, .string ⟨#[]⟩, .int .u8 1, .pointer none, .pointer none]) ⟨3, bb false, ⟨#[]⟩⟩ w hx hs hrow hb ?_ ?_ ?_ ?_ ?_
  · intro y hy; subst hy; exact .inr (.inr ⟨rfl, .inl rfl⟩)
  · intro _ W; exact (told_ISNA_4n n d (⟨#[35, 78, 85, 77, 33]⟩ : ByteArray) W (by decide +kernel)).mono fun e w1 h => ⟨_, rfl, h.1, h.2⟩
  · intro _ W p LB E h
    have e : (⟨4, n, d, (⟨#[35, 78, 85, 77, 33]⟩ : ByteArray)⟩ : Fv).of.inner = (.agg #[.string ⟨#[]⟩, .float .f64 0, .string (⟨#[35, 78, 85, 77, 33]⟩ : ByteArray), .slice none 0 0, .slice none 0 0, .bool false, .string (⟨#[35, 78, 85, 77, 33]⟩ : ByteArray), .int .u8 5, .pointer none, .pointer none]) := by simp [Fv.of, Gl.inner]
    rw [e] at h
    exact ff_ISNA_4n p LB E _ (by decide +kernel) W h
  · intro _; exact fun W => doorArg_bool _ W
  · intro y hy _ _; subst hy; exact ⟨rfl, rfl, by decide +kernel⟩


theorem case_ISNA_4_6 (b off c : Nat) (n d : Int) (t : ByteArray) (w : World) (hx : (⟨4, n, d, (⟨#[35, 78, 47, 65]⟩ : ByteArray)⟩ : Fv).Made t) (hs : t.size ≤ 1000) (hrow : Row w b off 5 [(⟨4, n, d, (⟨#[35, 78, 47, 65]⟩ : ByteArray)⟩ : Fv).cells]) (hb : b < w.heap.size) :
    Calls Tryz.prog 16 #[.func (.func 17) #[] #[], .string (⟨#[73, 83, 78, 65]⟩ : ByteArray), .slice (some ⟨b, off, none⟩) 1 c] w fun e w' => e = .returned (.bool true) ∧ Below w.heap.size w w' := by
  refine core_ISNA b off c ⟨4, n, d, (⟨#[35, 78, 47, 65]⟩ : ByteArray)⟩ t (fun y => y = ⟨3, 1, 0, ⟨#[]⟩⟩) (.agg #[.string ⟨#[]⟩, .float .f64 (bb true), .string ⟨#[]⟩, .slice none 0 0, .slice none 0 0, .bool true, .string ⟨#[]⟩, .int .u8 1, .pointer none, .pointer none]) ⟨3, bb true, ⟨#[]⟩⟩ w hx hs hrow hb ?_ ?_ ?_ ?_ ?_
  · intro y hy; subst hy; exact .inr (.inr ⟨rfl, .inr rfl⟩)
  · intro _ W; exact (told_ISNA_4 n d (⟨#[35, 78, 47, 65]⟩ : ByteArray) W (by decide +kernel)).mono fun e w1 h => ⟨_, rfl, h.1, h.2⟩
  · intro _ W p LB E h
    have e : (⟨4, n, d, (⟨#[35, 78, 47, 65]⟩ : ByteArray)⟩ : Fv).of.inner = (.agg #[.string ⟨#[]⟩, .float .f64 0, .string (⟨#[35, 78, 47, 65]⟩ : ByteArray), .slice none 0 0, .slice none 0 0, .bool false, .string (⟨#[35, 78, 47, 65]⟩ : ByteArray), .int .u8 5, .pointer none, .pointer none]) := by simp [Fv.of, Gl.inner]
    rw [e] at h
    exact ff_ISNA_4 p LB E _ (by decide +kernel) W h
  · intro _; exact fun W => doorArg_bool _ W
  · intro y hy _ _; subst hy; exact ⟨rfl, rfl, by decide +kernel⟩


theorem all_ISNA (b off c : Nat) (x : Fv) (t : ByteArray) (w : World) (hx : x.Made t) (hs : t.size ≤ 1000) (hrow : Row w b off 5 [x.cells]) (hb : b < w.heap.size) :
    Calls Tryz.prog 16 #[.func (.func 17) #[] #[], .string (⟨#[73, 83, 78, 65]⟩ : ByteArray), .slice (some ⟨b, off, none⟩) 1 c] w fun e w' => e = .returned (.bool true) ∧ Below w.heap.size w w' := by
  by_cases h6 : x.k = 6
  · refine core_ISNA b off c x t (fun _ => False) .nilIface ⟨0, 0, ⟨#[]⟩⟩ w hx hs hrow hb ?_ ?_ ?_ ?_ ?_
    · intro y hy; exact hy.elim
    · intro h; exact absurd h6 h
    · intro h; exact absurd h6 h
    · intro h; exact absurd h6 h
    · intro y hy; exact hy.elim
  · obtain ⟨k, n, d, s⟩ := x
    have hk : k = 0 ∨ k = 1 ∨ k = 2 ∨ k = 3 ∨ k = 4 := by
      have h := hx.1
      simp only [Fv.Ok] at h h6
      omega
    have h4 := hx.2.1
    simp only at h4
    clear h6
    rcases hk with hk | hk | hk | hk | hk
    · subst hk; exact case_ISNA_0 b off c n d s t w hx hs hrow hb
    · subst hk; exact case_ISNA_1 b off c n d s t w hx hs hrow hb
    · subst hk; exact case_ISNA_2 b off c n d s t w hx hs hrow hb
    · subst hk; exact case_ISNA_3 b off c n d s t w hx hs hrow hb
    · subst hk
      have hm := h4 rfl
      simp only [errNames, List.mem_cons, List.not_mem_nil, or_false] at hm
      rcases hm with hm | hm | hm | hm | hm | hm | hm
      · subst hm; exact case_ISNA_4_0 b off c n d t w hx hs hrow hb
      · subst hm; exact case_ISNA_4_1 b off c n d t w hx hs hrow hb
      · subst hm; exact case_ISNA_4_2 b off c n d t w hx hs hrow hb
      · subst hm; exact case_ISNA_4_3 b off c n d t w hx hs hrow hb
      · subst hm; exact case_ISNA_4_4 b off c n d t w hx hs hrow hb
      · subst hm; exact case_ISNA_4_5 b off c n d t w hx hs hrow hb
      · subst hm; exact case_ISNA_4_6 b off c n d t w hx hs hrow hb

theorem law_ISNA (a n : Int) (s : ByteArray) (w : World) (ha0 : 0 ≤ a) (ha1 : a ≤ 255) (h1 : -9223372036854775808 ≤ n) (h2 : n ≤ 9223372036854775807) :
    Calls Tryz.prog 3 #[.int .u8 a, .int .i64 n, .string s] w fun e w' => e = .returned (.bool true) ∧ Below w.heap.size w w' := by
  by_cases hz : 2147483647 < s.size
  · go_enter Tryz.func3, Tryz.ntmps3
    go_wp2
    go_ret
    exact ⟨rfl, (by (repeat' (first | with_reducible exact Below.refl _ _ | with_reducible refine Below.setCell ?_ ?_ _ | with_reducible refine Below.alloc ?_ ?_ _ | with_reducible refine Below.drew ?_ | with_reducible refine Below.trans ?_ (Below.mono (by assumption) ?_))); all_goals (first | omega | (simp [World.setCell]; done) | (simp [World.setCell]; omega)))⟩
  · by_cases hs : 1000 < s.size
    · go_enter Tryz.func3, Tryz.ntmps3
      go_wp2_with fail
      refine (short1_no _ s _ (by simp [go_sem]) hs).mono ?_
      rintro e w1 ⟨rfl, rfl⟩
      go_wp2
      go_ret
      exact ⟨rfl, (by (repeat' (first | with_reducible exact Below.refl _ _ | with_reducible refine Below.setCell ?_ ?_ _ | with_reducible refine Below.alloc ?_ ?_ _ | with_reducible refine Below.drew ?_ | with_reducible refine Below.trans ?_ (Below.mono (by assumption) ?_))); all_goals (first | omega | (simp [World.setCell]; done) | (simp [World.setCell]; omega)))⟩
    · have hs' : s.size ≤ 1000 := by omega
      have HA := Lib.hid (And.intro (And.intro ha0 ha1) (And.intro h1 h2))
      clear ha0 ha1 h1 h2
      go_enter Tryz.func3, Tryz.ntmps3
      go_wp2_with fail
      refine (short1_yes _ s _ (by simp [go_sem]) hs').mono ?_
      rintro e w1 ⟨rfl, rfl⟩
      go_wp2_with fail
      refine (argMade_any a n s _ HA.out.1.1 HA.out.1.2 HA.out.2.1 HA.out.2.2).mono ?_
      rintro e w2 ⟨x, hx, rfl, hb2⟩
      have hbw : Below w.heap.size w w2 := ((Below.refl _ w).alloc (Nat.le_refl _) _).trans (hb2.mono (by simp))
      have HX := Lib.hid hx
      clear hx
      go_wp2_with fail
      refine (all_ISNA _ 0 1 x s _ HX.out hs' (row_one w2 27 #[.int .i64 x.k, .int .i64 x.n, .int .i64 x.d, .string x.s, .slice none 0 0]) (by simp)).mono ?_
      rintro e w3 ⟨rfl, hb3⟩
      have hbw3 : Below w.heap.size w w3 := (hbw.alloc hbw.size _).trans (hb3.mono (by simp; have := hbw.size; omega))
      go_wp2
      go_ret
      exact ⟨rfl, hbw3⟩

end Go.Proofs.YtkkmfpjmnebjaaaGreat
