/- COUNTBLANK: what the reference says of a range, what the package says, and that both agree. -/
import Derived.Test.YtmlcaamgkgdgoaaGreatLa
set_option linter.unusedSimpArgs false
set_option linter.unusedVariables false
namespace Go.Proofs.YtmlcaamgkgdgoaaGreat
open Go.RowKit
set_option maxRecDepth 100000
set_option maxHeartbeats 1000000

theorem fitsNumbers_COUNTBLANK (A : Option Addr) (L : List Ve) (c : Nat) (w : World) (hL : Args w A L) :
    Calls Tryz.prog 92 #[.string (⟨#[67, 79, 85, 78, 84, 66, 76, 65, 78, 75]⟩ : ByteArray), .slice A L.length c] w fun e w' => e = .returned (.tuple #[.bool false, .bool false]) ∧ Below w.heap.size w w' := by
  have HE := numeric_all A L c w hL
  go_enter Tryz.func92, Tryz.ntmps92
  go_wp2_with fail
  refine HE.mono ?_
  rintro e w1 ⟨r, rfl, hb1⟩
  go_wp2
  go_ret2
  exact ⟨rfl, hb1⟩

theorem fitsTexts_COUNTBLANK (A : Option Addr) (n c : Nat) (w : World) :
    Calls Tryz.prog 93 #[.string (⟨#[67, 79, 85, 78, 84, 66, 76, 65, 78, 75]⟩ : ByteArray), .slice A n c] w fun e w' => e = .returned (.tuple #[.bool false, .bool false]) ∧ Below w.heap.size w w' := by
  go_enter Tryz.func93, Tryz.ntmps93
  go_wp2
  go_ret2
  exact ⟨rfl, (by (repeat' (first | with_reducible exact Below.refl _ _ | with_reducible refine Below.setCell ?_ ?_ _ | with_reducible refine Below.alloc ?_ ?_ _ | with_reducible refine Below.drew ?_ | with_reducible refine Below.trans ?_ (Below.mono (by assumption) ?_))); all_goals (first | omega | (simp [World.setCell]; done) | (simp [World.setCell]; omega)))⟩

theorem fitsChoices_COUNTBLANK (A : Option Addr) (n c : Nat) (w : World) :
    Calls Tryz.prog 94 #[.string (⟨#[67, 79, 85, 78, 84, 66, 76, 65, 78, 75]⟩ : ByteArray), .slice A n c] w fun e w' => e = .returned (.tuple #[.bool false, .bool false]) ∧ Below w.heap.size w w' := by
  go_enter Tryz.func94, Tryz.ntmps94
  go_wp2
  go_ret2
  exact ⟨rfl, (by (repeat' (first | with_reducible exact Below.refl _ _ | with_reducible refine Below.setCell ?_ ?_ _ | with_reducible refine Below.alloc ?_ ?_ _ | with_reducible refine Below.drew ?_ | with_reducible refine Below.trans ?_ (Below.mono (by assumption) ?_))); all_goals (first | omega | (simp [World.setCell]; done) | (simp [World.setCell]; omega)))⟩

theorem others_COUNTBLANK (w : World) : Calls Tryz.prog 95 #[.string (⟨#[67, 79, 85, 78, 84, 66, 76, 65, 78, 75]⟩ : ByteArray)] w fun e w' => e = .returned (.bool true) ∧ Below w.heap.size w w' := by
  go_enter Tryz.func95, Tryz.ntmps95
  go_wp2
  go_ret
  exact ⟨rfl, (by (repeat' (first | with_reducible exact Below.refl _ _ | with_reducible refine Below.setCell ?_ ?_ _ | with_reducible refine Below.alloc ?_ ?_ _ | with_reducible refine Below.drew ?_ | with_reducible refine Below.trans ?_ (Below.mono (by assumption) ?_))); all_goals (first | omega | (simp [World.setCell]; done) | (simp [World.setCell]; omega)))⟩


theorem fits_COUNTBLANK (b off n c : Nat) (G : List Ve) (M : List Mv) (w : World) (hn : n = M.length) (h : ArgsIn w b off G M) (ht : ∀ m ∈ M, m.x.k = 2 → m.x.s.size ≤ 2147483647) (hl : M.length ≤ 1000) : FitsIs (⟨#[67, 79, 85, 78, 84, 66, 76, 65, 78, 75]⟩ : ByteArray) (some ⟨b, off, none⟩) n c true w := by
  intro W hW
  refine fits_others _ _ _ _ W (fun W3 h3 => ?_) (fun W3 _ => fitsTexts_COUNTBLANK _ _ _ W3) (fun W3 _ => fitsChoices_COUNTBLANK _ _ _ W3) (fun W3 => others_COUNTBLANK W3)
  have hA := args_of (h.below (hW.trans (h3.mono hW.size))) ht hl
  rw [hn, ← h.2.2.1.1]
  exact fitsNumbers_COUNTBLANK _ G c W3 hA


theorem here_COUNTBLANK (b off n c : Nat) (Pf : Fv → Prop) (fn : Nat) (w0 : World) (h : ∀ W, Below w0.heap.size w0 W → Calls Tryz.prog 111 #[.slice (some ⟨b, off, none⟩) n c] W fun e w' => ∃ y, Pf y ∧ e = .returned (.agg #[.int .i64 y.k, .int .i64 y.n, .int .i64 y.d, .string y.s, .slice none 0 0]) ∧ Below W.heap.size W w') :
    Here 67 (⟨#[67, 79, 85, 78, 84, 66, 76, 65, 78, 75]⟩ : ByteArray) (some ⟨b, off, none⟩) n c (FlatP Pf) w0 := by
  intro w hbw
  have HH := Lib.hid h
  have z0 := Zero5.new w
  clear h
  go_enter Tryz.func67, Tryz.ntmps67
  go_wp2_with fail
  refine (HH.out _ (hbw.alloc hbw.size _)).mono ?_
  rintro e w1 ⟨y, hy, rfl, hb1⟩
  have HY := Lib.hid hy
  obtain ⟨q, q0, q1, q2, q3, q4, qf⟩ := z0.below hb1
  clear z0 hy
  go_wp2
  exact bodyPost_ret (v := (.tuple #[(.agg #[.int .i64 y.k, .int .i64 y.n, .int .i64 y.d, .string y.s, .slice none 0 0]), .bool true])) (by simp [results, Tryz.results67, go_sem, q, q0, q1, q2, q3, q4, qf]) rfl ⟨⟨y, none, 0, 0⟩, rfl, ⟨y, HY.out, rfl⟩, (by (repeat' (first | with_reducible exact Below.refl _ _ | with_reducible refine Below.setCell ?_ ?_ _ | with_reducible refine Below.alloc ?_ ?_ _ | with_reducible refine Below.drew ?_ | with_reducible refine Below.trans ?_ (Below.mono (by assumption) ?_))); all_goals (first | omega | (simp [World.setCell]; done) | (simp [World.setCell]; omega)))⟩


theorem door_COUNTBLANK (b n c : Nat) (G : List Vg) (M : List Mg) (P : Nat → Prop) (w : World) (hn : n = M.length) (ha : ArgsOut w b G M) (hlen : n ≤ 1000) (hok : ∀ m ∈ M, m.Ok)
    (hf : ∀ (W : World) (p : Addr) (LB : Nat), ListOut W LB M → Calls Tryz.prog 52 #[.pointer (some p), .pointer (some ⟨LB, 0, none⟩)] W (NumPost P W)) :
    Calls Tryz.prog 34 #[.slice (some ⟨b, 0, none⟩) n c] w (IntPost P w) := by
  have z0 := Zero4.new w 59
  have hbA : Below w.heap.size w (w.alloc (.cells #[.int .i64 0, .float .f64 0, .string ⟨#[]⟩, .slice none 0 0] 59)) := (Below.refl _ _).alloc (Nat.le_refl _) _
  have HA := Lib.hid (And.intro ha hok)
  have HF := Lib.hid hf
  have HN := Lib.hid hn
  clear ha hok hf hn
  go_enter Tryz.func34, Tryz.ntmps34
  go_wp2_with fail
  refine (doorFuncs_any _).mono ?_
  rintro e w1 ⟨rfl, hb1⟩
  have hbw1 := hbA.trans (hb1.mono (by simp))
  have z1 := z0.below hb1
  have ha1 : ArgsOut w1 b G M := ⟨Nat.lt_of_lt_of_le HA.out.1.1 hbw1.size, HA.out.1.2.1.below hbw1 HA.out.1.1, (HA.out.1.2.2.keep (Keep.below hbw1 fun _ h => h)).more fun q hq => Nat.lt_of_lt_of_le hq hbw1.size⟩
  have HA1 := Lib.hid ha1
  clear ha1
  go_wp2_with fail
  refine (innerList_any b n c G M w1 HN.out HA1.out hlen HA.out.2).mono ?_
  rintro e w2 ⟨rfl, hl, hb2⟩
  have hbw2 := hbw1.trans (hb2.mono hbw1.size)
  have z2 := z1.below hb2
  have HL := Lib.hid hl
  clear hl
  go_wp2_with fail
  refine (HF.out _ _ _ HL.out).mono ?_
  rintro e w3 ⟨z, hz, rfl, hb3⟩
  have hbw3 := hbw2.trans (hb3.mono hbw2.size)
  have z3 := z2.below hb3
  have HZ := Lib.hid hz
  clear hz
  go_wp2_with fail
  refine (doorArg_num z _).mono ?_
  rintro e w4 ⟨rfl, hb4⟩
  have hbw := hbw3.trans (hb4.mono hbw3.size)
  obtain ⟨q, q0, q1, q2, q3, qf⟩ := z3.below hb4
  clear z0 z1 z2 z3 hb1 hb2 hb3 hb4 hbw1 hbw2 hbw3 hbA
  go_wp2
  exact bodyPost_ret (v := (.agg #[.int .i64 1, .float .f64 z, .string ⟨#[]⟩, .slice none 0 0])) (by simp [results, Tryz.results34, go_sem, q, q0, q1, q2, q3, qf]) rfl ⟨z, HZ.out, rfl, (by (repeat' (first | with_reducible exact Below.refl _ _ | with_reducible refine Below.setCell ?_ ?_ _ | with_reducible refine Below.alloc ?_ ?_ _ | with_reducible refine Below.drew ?_ | with_reducible refine Below.trans ?_ (Below.mono (by assumption) ?_))); all_goals (first | omega | (simp [World.setCell]; done) | (simp [World.setCell]; omega)))⟩

theorem impl_COUNTBLANK (b n c : Nat) (G : List Vg) (M : List Mg) (P : Nat → Prop) (w : World) (hn : n = M.length) (ha : ArgsOut w b G M) (hlen : n ≤ 1000) (h0 : M ≠ []) (hok : ∀ m ∈ M, m.Ok)
    (hf : ∀ (W : World) (p : Addr) (LB : Nat), ListOut W LB M → Calls Tryz.prog 52 #[.pointer (some p), .pointer (some ⟨LB, 0, none⟩)] W (NumPost P W)) :
    Calls Tryz.prog 13 #[.slice (some ⟨b, 0, none⟩) n c] w (IntPost P w) := by
  have z0 := Zero4.new w 47
  have hbA : Below w.heap.size w (w.alloc (.cells #[.int .i64 0, .float .f64 0, .string ⟨#[]⟩, .slice none 0 0] 47)) := (Below.refl _ _).alloc (Nat.le_refl _) _
  have ha1 : ArgsOut (w.alloc (.cells #[.int .i64 0, .float .f64 0, .string ⟨#[]⟩, .slice none 0 0] 47)) b G M := ⟨Nat.lt_of_lt_of_le ha.1 hbA.size, ha.2.1.below hbA ha.1, (ha.2.2.keep (Keep.below hbA fun _ h => h)).more fun q hq => Nat.lt_of_lt_of_le hq hbA.size⟩
  have HA := Lib.hid (And.intro ha1 hok)
  have HF := Lib.hid hf
  have HN := Lib.hid (And.intro hn h0)
  clear ha hok hf hn ha1 h0
  go_enter Tryz.func13, Tryz.ntmps13
  go_wp2_with fail
  refine (in_any b n c G M _ HN.out.1 HA.out.1 hlen HN.out.2 (fun m hm => ⟨(HA.out.2 m hm).2.1, fun r hr => ((HA.out.2 m hm).2.2 r hr).1⟩)).mono ?_
  rintro e w1 ⟨g, cap, G', rfl, ha2, hb1⟩
  have hbw1 := hbA.trans (hb1.mono (by simp))
  have z1 := z0.below hb1
  have HA2 := Lib.hid ha2
  clear ha2
  go_wp2_with fail
  refine (door_COUNTBLANK g n cap G' M P _ HN.out.1 HA2.out hlen HA.out.2 HF.out).mono ?_
  rintro e w2 ⟨z, hz, rfl, hb2⟩
  have hbw2 := hbw1.trans (hb2.mono hbw1.size)
  have z2 := z1.below hb2
  have HZ := Lib.hid hz
  clear hz
  go_wp2_with fail
  refine (out_flat 1 z ⟨#[]⟩ _).mono ?_
  rintro e w3 ⟨rfl, hb3⟩
  have hbw := hbw2.trans (hb3.mono hbw2.size)
  obtain ⟨q, q0, q1, q2, q3, qf⟩ := z2.below hb3
  clear z0 z1 z2 hb1 hb2 hb3 hbw1 hbw2 hbA
  go_wp2
  exact bodyPost_ret (v := (.agg #[.int .i64 1, .float .f64 z, .string ⟨#[]⟩, .slice none 0 0])) (by simp [results, Tryz.results13, go_sem, q, q0, q1, q2, q3, qf]) rfl ⟨z, HZ.out, rfl, (by (repeat' (first | with_reducible exact Below.refl _ _ | with_reducible refine Below.setCell ?_ ?_ _ | with_reducible refine Below.alloc ?_ ?_ _ | with_reducible refine Below.drew ?_ | with_reducible refine Below.trans ?_ (Below.mono (by assumption) ?_))); all_goals (first | omega | (simp [World.setCell]; done) | (simp [World.setCell]; omega)))⟩


theorem ffr_COUNTBLANK (rows : List (List Fv)) (h : Rect rows) (W : World) (p : Addr) (LB : Nat) (hl : ListOut W LB [(mat rows).of]) : Calls Tryz.prog 52 #[.pointer (some p), .pointer (some ⟨LB, 0, none⟩)] W (NumPost (fun z => Fl.Is z (zc (rows.map fun r => r.map Fv.of).flatten)) W) := by
  obtain ⟨E, A, c, P, Q, h1, h2, _, _⟩ := list_range hl rfl
  have hl1 : ((mat rows).of.rows).length ≤ 1000 := by show (rows.map fun r => r.map Fv.of).length ≤ 1000; rw [List.length_map]; have := h.2.1; omega
  have hl2 : ((mat rows).of.rows).flatten.length ≤ 100000 := by
    have h3 := h.total
    show (rows.map fun r => r.map Fv.of).flatten.length ≤ 100000
    rw [List.length_flatten] at h3 ⊢
    rw [List.map_map]
    have : (List.length ∘ fun r : List Fv => r.map Fv.of) = List.length := by funext r; simp
    rw [this]; omega
  exact ff_COUNTBLANK p LB E A _ c P Q _ W h1 h2 hl1 hl2

theorem zc_of (rows : List (List Fv)) : zc (rows.map fun r => r.map Fv.of).flatten = (rows.flatten.filter fun x => tyOf x.of == 6).length := by
  unfold zc
  rw [← List.map_flatten, List.filter_map, List.length_map]
  rfl
theorem cnt_ty (x : Fv) (h4 : x.k ≠ 4) : (tyOf x.of == 6) = !cnt x := by
  have hk : x.of.k = x.k := rfl
  unfold tyOf cnt
  rw [hk]
  by_cases h1 : x.k = 1
  · simp [h1]
  · by_cases h2 : x.k = 2
    · simp [h2]
    · by_cases h3 : x.k = 3
      · simp [h3]
      · simp [h1, h2, h3, h4]
theorem zc_kn (xs : List Fv) (h : ∀ x ∈ xs, x.k ≠ 4) : (xs.filter fun x => tyOf x.of == 6).length = xs.length - kn xs := by
  unfold kn
  induction xs with
  | nil => rfl
  | cons x r ih =>
    have ih := ih fun y hy => h y (List.mem_cons_of_mem _ hy)
    have hc := cnt_ty x (h x (List.mem_cons_self ..))
    have hle := List.length_filter_le cnt r
    simp only [List.filter_cons, hc]
    cases cnt x
    · simp; omega
    · simp; omega

theorem agree_COUNTBLANK (b off c : Nat) (v : Ve) (rows : List (List Fv)) (w : World) (hv : v.x.k = 5) (h : Rect rows) (ha : ArgsIn w b off [v] [mat rows]) :
    Calls Tryz.prog 12 #[.func (.func 13) #[] #[], .string (⟨#[67, 79, 85, 78, 84, 66, 76, 65, 78, 75]⟩ : ByteArray), .slice (some ⟨b, off, none⟩) 1 c] w fun e w' => e = .returned (.bool true) ∧ Below w.heap.size w w' := by
  have hfl : flatAll [mat rows] = rows.flatten := by rw [flatAll_one, flatM_mat]
  refine num_agrees 13 (⟨#[67, 79, 85, 78, 84, 66, 76, 65, 78, 75]⟩ : ByteArray) b off 1 c [v] [mat rows] (BlankW rows.flatten) (fun z => Fl.Is z (zc (rows.map fun r => r.map Fv.of).flatten)) w (fun args W => by kernel_rfl) rfl ha (by omega) (by simp) (by rw [hfl]; have := h.total; omega) ?_ ?_ ?_ ?_
  · rintro y (hy | ⟨hy, _⟩)
    · subst hy; exact .inl (.inr (.inr (.inr rfl)))
    · subst hy
      refine .inr (.inl ⟨rfl, ?_, ?_, by simp [dens]⟩)
      · show (-99999999999 : Int) ≤ ((rows.flatten.length - kn rows.flatten : Nat) : Int); omega
      · show ((rows.flatten.length - kn rows.flatten : Nat) : Int) ≤ 99999999999; have := h.total; omega
  · intro W hW
    have hd := call_over (⟨#[67, 79, 85, 78, 84, 66, 76, 65, 78, 75]⟩ : ByteArray) (some ⟨b, off, none⟩) 1 c (FlatP (BlankW rows.flatten)) (FlatP.lasts _) W (by
      intro W2 hW2
      have hW' := hW.trans (hW2.mono hW.size)
      refine over_Stat _ _ _ _ _ (FlatP.lasts _) W2 (fits_COUNTBLANK b off 1 c [v] [mat rows] W2 rfl (ha.below hW') (by intro m hm; simp at hm; subst hm; intro h2; cases h2) (by simp)) (here_COUNTBLANK b off 1 c _ 0 W2 ?_)
      intro W3 hW3
      have := blank_any b off c v (mat rows) W3 (ha.below (hW'.trans (hW3.mono hW'.size))) hv (by rw [flatM_mat]; exact h.total) (by rw [flatM_mat]; intro x hx; exact (h.cells x hx).1)
      rw [flatM_mat] at this
      exact this)
    exact hd.mono fun e w1 h => h.flatP
  · intro hd W g cap G' hao
    exact impl_COUNTBLANK g 1 cap G' [(mat rows).of] _ W rfl hao (by omega) (by simp) (of_mem_ok (M := [mat rows]) ha.2.2.2 (rows_none ha.2.2.1) hd) (fun W p LB hl => ffr_COUNTBLANK rows h W p LB hl)
  · rintro hd y z (hy | ⟨hy, h46⟩) h6 hz
    · subst hy; exact absurd rfl h6
    · subst hy
      refine ⟨rfl, rfl, ?_⟩
      rw [Fv.of_eq1]
      rw [zc_of, zc_kn _ (fun x hx => (h46 x hx).1)] at hz
      have hn := Fl.is_nb ((rows.flatten.length - kn rows.flatten : Nat) : Int) (by have := h.total; omega)
      show (FloatKind.f64.format.order z (Fl.nb _ 1) != some .eq) = false
      rw [show FloatKind.f64.format = Ieee.double from rfl, Fl.is_order hz hn]
      rfl


theorem law_COUNTBLANK (A : Option Addr) (c : Nat) (X : List It) (cols : Int) (w : World) (hx : ItemsIn w A c X) (h1 : -9223372036854775808 ≤ cols) (h2 : cols ≤ 9223372036854775807) :
    Calls Tryz.prog 3 #[.slice A X.length c, .int .i64 cols] w fun e w' => e = .returned (.bool true) ∧ Below w.heap.size w w' := by
  obtain ⟨hsrc, hlc, hcc, hok⟩ := hx
  have HX := Lib.hid (And.intro hsrc (And.intro hok (And.intro h1 h2)))
  clear hsrc hok h1 h2
  go_enter Tryz.func3, Tryz.ntmps3
  go_wp2_with fail
  refine (fits1_any A c X w HX.out.1 (by omega)).mono ?_
  rintro e w1 ⟨b, rfl, hb, hb1⟩
  have HB := Lib.hid hb
  clear hb
  cases b
  · go_wp2
    go_ret
    exact ⟨rfl, hb1⟩
  · go_wp2_with fail
    refine (tableOf_any A c X cols w1 ((HX.out.1.below hb1 (Nat.le_refl _)).more hb1.size) (by omega) hlc hcc (fun x hx => ⟨HX.out.2.1 x hx, HB.out trivial x hx⟩) HX.out.2.2.1 HX.out.2.2.2).mono ?_
    rintro e w2 ⟨A', m, c', rows, rfl, hrs, hrect, hb2⟩
    have HR := Lib.hid (And.intro hrect (range_args c' hrs hrect))
    have hbw := hb1.trans (hb2.mono hb1.size)
    clear hrs hrect hb2
    go_wp2_with fail
    refine (agree_COUNTBLANK _ 0 1 ⟨⟨5, 0, 0, ⟨#[]⟩⟩, A', m, c'⟩ rows _ rfl HR.out.1 HR.out.2).mono ?_
    rintro e w3 ⟨rfl, hb3⟩
    have hbw3 : Below w.heap.size w w3 := (hbw.alloc hbw.size _).trans (hb3.mono (by simp; have := hbw.size; omega))
    go_wp2
    go_ret
    exact ⟨rfl, hbw3⟩

end Go.Proofs.YtmlcaamgkgdgoaaGreat
