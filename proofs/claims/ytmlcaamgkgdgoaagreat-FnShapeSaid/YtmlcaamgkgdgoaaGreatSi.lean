/- ROWS, COLUMNS; the law FnShape. -/
import Derived.Test.YtmlcaamgkgdgoaaGreatSh
set_option linter.unusedSimpArgs false
set_option linter.unusedVariables false
namespace Go.Proofs.YtmlcaamgkgdgoaaGreat
open Go.RowKit
set_option maxRecDepth 100000
set_option maxHeartbeats 1000000

theorem one_is : Fl.Is 4607182418800017408 1 := by
  have h : floatOfInt .f64 1 = 4607182418800017408 := by decide +kernel
  have := Fl.is_ofInt (1 : Int) (by decide)
  rw [h] at this
  exact this

theorem fitsNumbers_ROWS (A : Option Addr) (L : List Ve) (c : Nat) (w : World) (hL : Args w A L) :
    Calls Tryz.prog 92 #[.string (⟨#[82, 79, 87, 83]⟩ : ByteArray), .slice A L.length c] w fun e w' => e = .returned (.tuple #[.bool false, .bool false]) ∧ Below w.heap.size w w' := by
  have HE := numeric_all A L c w hL
  go_enter Tryz.func92, Tryz.ntmps92
  go_wp2_with fail
  refine HE.mono ?_
  rintro e w1 ⟨r, rfl, hb1⟩
  go_wp2
  go_ret2
  exact ⟨rfl, hb1⟩

theorem fitsTexts_ROWS (A : Option Addr) (n c : Nat) (w : World) :
    Calls Tryz.prog 93 #[.string (⟨#[82, 79, 87, 83]⟩ : ByteArray), .slice A n c] w fun e w' => e = .returned (.tuple #[.bool false, .bool false]) ∧ Below w.heap.size w w' := by
  go_enter Tryz.func93, Tryz.ntmps93
  go_wp2
  go_ret2
  exact ⟨rfl, (by (repeat' (first | with_reducible exact Below.refl _ _ | with_reducible refine Below.setCell ?_ ?_ _ | with_reducible refine Below.alloc ?_ ?_ _ | with_reducible refine Below.drew ?_ | with_reducible refine Below.trans ?_ (Below.mono (by assumption) ?_))); all_goals (first | omega | (simp [World.setCell]; done) | (simp [World.setCell]; omega)))⟩

theorem fitsChoices_ROWS (A : Option Addr) (n c : Nat) (w : World) :
    Calls Tryz.prog 94 #[.string (⟨#[82, 79, 87, 83]⟩ : ByteArray), .slice A n c] w fun e w' => e = .returned (.tuple #[.bool false, .bool false]) ∧ Below w.heap.size w w' := by
  go_enter Tryz.func94, Tryz.ntmps94
  go_wp2
  go_ret2
  exact ⟨rfl, (by (repeat' (first | with_reducible exact Below.refl _ _ | with_reducible refine Below.setCell ?_ ?_ _ | with_reducible refine Below.alloc ?_ ?_ _ | with_reducible refine Below.drew ?_ | with_reducible refine Below.trans ?_ (Below.mono (by assumption) ?_))); all_goals (first | omega | (simp [World.setCell]; done) | (simp [World.setCell]; omega)))⟩

theorem Stat_ROWS (A : Option Addr) (n c : Nat) (w : World) :
    Calls Tryz.prog 67 #[.string (⟨#[82, 79, 87, 83]⟩ : ByteArray), .slice A n c] w fun e w' => e = .returned (.tuple #[(.agg #[.int .i64 0, .int .i64 0, .int .i64 0, .string ⟨#[]⟩, .slice none 0 0]), .bool false]) ∧ Below w.heap.size w w' := by
  go_enter Tryz.func67, Tryz.ntmps67
  go_wp2
  exact bodyPost_ret (v := (.tuple #[(.agg #[.int .i64 0, .int .i64 0, .int .i64 0, .string ⟨#[]⟩, .slice none 0 0]), .bool false])) (by simp [results, Tryz.results67, go_sem]) rfl ⟨rfl, (by (repeat' (first | with_reducible exact Below.refl _ _ | with_reducible refine Below.setCell ?_ ?_ _ | with_reducible refine Below.alloc ?_ ?_ _ | with_reducible refine Below.drew ?_ | with_reducible refine Below.trans ?_ (Below.mono (by assumption) ?_))); all_goals (first | omega | (simp [World.setCell]; done) | (simp [World.setCell]; omega)))⟩

theorem Criteria_ROWS (A : Option Addr) (n c : Nat) (w : World) :
    Calls Tryz.prog 68 #[.string (⟨#[82, 79, 87, 83]⟩ : ByteArray), .slice A n c] w fun e w' => e = .returned (.tuple #[(.agg #[.int .i64 0, .int .i64 0, .int .i64 0, .string ⟨#[]⟩, .slice none 0 0]), .bool false]) ∧ Below w.heap.size w w' := by
  go_enter Tryz.func68, Tryz.ntmps68
  go_wp2
  exact bodyPost_ret (v := (.tuple #[(.agg #[.int .i64 0, .int .i64 0, .int .i64 0, .string ⟨#[]⟩, .slice none 0 0]), .bool false])) (by simp [results, Tryz.results68, go_sem]) rfl ⟨rfl, (by (repeat' (first | with_reducible exact Below.refl _ _ | with_reducible refine Below.setCell ?_ ?_ _ | with_reducible refine Below.alloc ?_ ?_ _ | with_reducible refine Below.drew ?_ | with_reducible refine Below.trans ?_ (Below.mono (by assumption) ?_))); all_goals (first | omega | (simp [World.setCell]; done) | (simp [World.setCell]; omega)))⟩

theorem others_ROWS (w : World) : Calls Tryz.prog 95 #[.string (⟨#[82, 79, 87, 83]⟩ : ByteArray)] w fun e w' => e = .returned (.bool true) ∧ Below w.heap.size w w' := by
  go_enter Tryz.func95, Tryz.ntmps95
  go_wp2
  go_ret
  exact ⟨rfl, (by (repeat' (first | with_reducible exact Below.refl _ _ | with_reducible refine Below.setCell ?_ ?_ _ | with_reducible refine Below.alloc ?_ ?_ _ | with_reducible refine Below.drew ?_ | with_reducible refine Below.trans ?_ (Below.mono (by assumption) ?_))); all_goals (first | omega | (simp [World.setCell]; done) | (simp [World.setCell]; omega)))⟩


theorem fits_ROWS (b off n c : Nat) (G : List Ve) (M : List Mv) (w : World) (hn : n = M.length) (h : ArgsIn w b off G M) (ht : ∀ m ∈ M, m.x.k = 2 → m.x.s.size ≤ 2147483647) (hl : M.length ≤ 1000) : FitsIs (⟨#[82, 79, 87, 83]⟩ : ByteArray) (some ⟨b, off, none⟩) n c true w := by
  intro W hW
  refine fits_others _ _ _ _ W (fun W3 h3 => ?_) (fun W3 _ => fitsTexts_ROWS _ _ _ W3) (fun W3 _ => fitsChoices_ROWS _ _ _ W3) (fun W3 => others_ROWS W3)
  have hA := args_of (h.below (hW.trans (h3.mono hW.size))) ht hl
  rw [hn, ← h.2.2.1.1]
  exact fitsNumbers_ROWS _ G c W3 hA


theorem door_ROWS (b n c : Nat) (G : List Vg) (M : List Mg) (P : Nat → Prop) (w : World) (hn : n = M.length) (ha : ArgsOut w b G M) (hlen : n ≤ 1000) (hok : ∀ m ∈ M, m.Ok)
    (hf : ∀ (W : World) (p : Addr) (LB : Nat), ListOut W LB M → Calls Tryz.prog 62 #[.pointer (some p), .pointer (some ⟨LB, 0, none⟩)] W (NumPost P W)) :
    Calls Tryz.prog 44 #[.slice (some ⟨b, 0, none⟩) n c] w (IntPost P w) := by
  have z0 := Zero4.new w 59
  have hbA : Below w.heap.size w (w.alloc (.cells #[.int .i64 0, .float .f64 0, .string ⟨#[]⟩, .slice none 0 0] 59)) := (Below.refl _ _).alloc (Nat.le_refl _) _
  have HA := Lib.hid (And.intro ha hok)
  have HF := Lib.hid hf
  have HN := Lib.hid hn
  clear ha hok hf hn
  go_enter Tryz.func44, Tryz.ntmps44
  go_wp2_with fail
  refine (doorFuncs_any _).mono ?_
  rintro e w1 ⟨rfl, hb1⟩
  have hbw1 := hbA.trans (hb1.mono (by simp))
  have z1 := z0.below hb1
  have ha1 : ArgsOut w1 b G M := ⟨Nat.lt_of_lt_of_le HA.out.1.1 hbw1.size, HA.out.1.2.1.below hbw1 HA.out.1.1, (HA.out.1.2.2.keep (Keep.below hbw1 fun _ h => h)).more fun q hq => Nat.lt_of_lt_of_le hq hbw1.size⟩
  have HA1 := Lib.hid ha1
  clear ha1
  go_wp2_with fail
  refine (innerList_any b n c G M w1 HN.out HA1.out hlen HA.out.2).mono ?_
  rintro e w2 ⟨rfl, hl, hb2⟩
  have hbw2 := hbw1.trans (hb2.mono hbw1.size)
  have z2 := z1.below hb2
  have HL := Lib.hid hl
  clear hl
  go_wp2_with fail
  refine (HF.out _ _ _ HL.out).mono ?_
  rintro e w3 ⟨z, hz, rfl, hb3⟩
  have hbw3 := hbw2.trans (hb3.mono hbw2.size)
  have z3 := z2.below hb3
  have HZ := Lib.hid hz
  clear hz
  go_wp2_with fail
  refine (doorArg_num z _).mono ?_
  rintro e w4 ⟨rfl, hb4⟩
  have hbw := hbw3.trans (hb4.mono hbw3.size)
  obtain ⟨q, q0, q1, q2, q3, qf⟩ := z3.below hb4
  clear z0 z1 z2 z3 hb1 hb2 hb3 hb4 hbw1 hbw2 hbw3 hbA
  go_wp2
  exact bodyPost_ret (v := (.agg #[.int .i64 1, .float .f64 z, .string ⟨#[]⟩, .slice none 0 0])) (by simp [results, Tryz.results44, go_sem, q, q0, q1, q2, q3, qf]) rfl ⟨z, HZ.out, rfl, (by (repeat' (first | with_reducible exact Below.refl _ _ | with_reducible refine Below.setCell ?_ ?_ _ | with_reducible refine Below.alloc ?_ ?_ _ | with_reducible refine Below.drew ?_ | with_reducible refine Below.trans ?_ (Below.mono (by assumption) ?_))); all_goals (first | omega | (simp [World.setCell]; done) | (simp [World.setCell]; omega)))⟩

theorem impl_ROWS (b n c : Nat) (G : List Vg) (M : List Mg) (P : Nat → Prop) (w : World) (hn : n = M.length) (ha : ArgsOut w b G M) (hlen : n ≤ 1000) (h0 : M ≠ []) (hok : ∀ m ∈ M, m.Ok)
    (hf : ∀ (W : World) (p : Addr) (LB : Nat), ListOut W LB M → Calls Tryz.prog 62 #[.pointer (some p), .pointer (some ⟨LB, 0, none⟩)] W (NumPost P W)) :
    Calls Tryz.prog 23 #[.slice (some ⟨b, 0, none⟩) n c] w (IntPost P w) := by
  have z0 := Zero4.new w 47
  have hbA : Below w.heap.size w (w.alloc (.cells #[.int .i64 0, .float .f64 0, .string ⟨#[]⟩, .slice none 0 0] 47)) := (Below.refl _ _).alloc (Nat.le_refl _) _
  have ha1 : ArgsOut (w.alloc (.cells #[.int .i64 0, .float .f64 0, .string ⟨#[]⟩, .slice none 0 0] 47)) b G M := ⟨Nat.lt_of_lt_of_le ha.1 hbA.size, ha.2.1.below hbA ha.1, (ha.2.2.keep (Keep.below hbA fun _ h => h)).more fun q hq => Nat.lt_of_lt_of_le hq hbA.size⟩
  have HA := Lib.hid (And.intro ha1 hok)
  have HF := Lib.hid hf
  have HN := Lib.hid (And.intro hn h0)
  clear ha hok hf hn ha1 h0
  go_enter Tryz.func23, Tryz.ntmps23
  go_wp2_with fail
  refine (in_any b n c G M _ HN.out.1 HA.out.1 hlen HN.out.2 (fun m hm => ⟨(HA.out.2 m hm).2.1, fun r hr => ((HA.out.2 m hm).2.2 r hr).1⟩)).mono ?_
  rintro e w1 ⟨g, cap, G', rfl, ha2, hb1⟩
  have hbw1 := hbA.trans (hb1.mono (by simp))
  have z1 := z0.below hb1
  have HA2 := Lib.hid ha2
  clear ha2
  go_wp2_with fail
  refine (door_ROWS g n cap G' M P _ HN.out.1 HA2.out hlen HA.out.2 HF.out).mono ?_
  rintro e w2 ⟨z, hz, rfl, hb2⟩
  have hbw2 := hbw1.trans (hb2.mono hbw1.size)
  have z2 := z1.below hb2
  have HZ := Lib.hid hz
  clear hz
  go_wp2_with fail
  refine (out_flat 1 z ⟨#[]⟩ _).mono ?_
  rintro e w3 ⟨rfl, hb3⟩
  have hbw := hbw2.trans (hb3.mono hbw2.size)
  obtain ⟨q, q0, q1, q2, q3, qf⟩ := z2.below hb3
  clear z0 z1 z2 hb1 hb2 hb3 hbw1 hbw2 hbA
  go_wp2
  exact bodyPost_ret (v := (.agg #[.int .i64 1, .float .f64 z, .string ⟨#[]⟩, .slice none 0 0])) (by simp [results, Tryz.results23, go_sem, q, q0, q1, q2, q3, qf]) rfl ⟨z, HZ.out, rfl, (by (repeat' (first | with_reducible exact Below.refl _ _ | with_reducible refine Below.setCell ?_ ?_ _ | with_reducible refine Below.alloc ?_ ?_ _ | with_reducible refine Below.drew ?_ | with_reducible refine Below.trans ?_ (Below.mono (by assumption) ?_))); all_goals (first | omega | (simp [World.setCell]; done) | (simp [World.setCell]; omega)))⟩


set_option maxHeartbeats 4000000 in
theorem ff_ROWS (p : Addr) (LB E : Nat) (A : Option Addr) (n c P Q C R : Nat) (w : World) (h : List1 w LB E (.iface 76 (FMat A n c P Q))) (hP : ListIs w (· < w.heap.size) P []) (hQ : ListIs w (· < w.heap.size) Q [cellsOf C R]) (h0 : 0 < R) (h1 : R ≤ 1000) :
    Calls Tryz.prog 62 #[.pointer (some p), .pointer (some ⟨LB, 0, none⟩)] w (NumPost (fun z => Fl.Is z R) w) := by
  have Z0 := Lib.hid (Zero10.new w)
  have hl := h.below ((Below.refl _ _).alloc (Nat.le_refl _) (.cells #[.string ⟨#[]⟩, .float .f64 0, .string ⟨#[]⟩, .slice none 0 0, .slice none 0 0, .bool false, .string ⟨#[]⟩, .int .u8 0, .pointer none, .pointer none] 76))
  have hbA : Below w.heap.size w (w.alloc (.cells #[.string ⟨#[]⟩, .float .f64 0, .string ⟨#[]⟩, .slice none 0 0, .slice none 0 0, .bool false, .string ⟨#[]⟩, .int .u8 0, .pointer none, .pointer none] 76)) := (Below.refl _ _).alloc (Nat.le_refl _) _
  have hP' := (hP.keep (Keep.below hbA fun _ hk => hk)).more fun q hq => Nat.lt_of_lt_of_le hq hbA.size
  have hQ' := (hQ.keep (Keep.below hbA fun _ hk => hk)).more fun q hq => Nat.lt_of_lt_of_le hq hbA.size
  have hl' := hl
  obtain ⟨_, _, _, _, r4, _, _, _⟩ := hl'
  have HC := Lib.hid (calc_false LB E A n c P Q C R _ hl hP' hQ' h0)
  have HI : Hid (∀ z : Int, z = R → Fl.Is (floatOfInt .f64 z) R) := Lib.hid (by rintro z rfl; exact Fl.is_ofInt _ (by omega))
  have hlim : (((R : Nat) : Int) == 1048576) = false := by rw [beq_eq_false_iff_ne]; omega
  have HBA := Lib.hid hbA
  clear h hl hP hQ hP' hQ' hbA
  go_enter Tryz.func62, Tryz.ntmps62
  go_wp2_with fail
  refine (len_any _ _ _ r4).mono ?_
  rintro e v1 ⟨rfl, rfl⟩
  clear r4
  go_wp2_with fail
  refine HC.out.mono ?_
  rintro e w1 ⟨rfl, hb1⟩
  have hbw := HBA.out.trans (hb1.mono HBA.out.size)
  have Z1 := Lib.hid (Z0.out.below hb1)
  clear hb1 HC
  by_cases hx : R = 1
  · subst hx
    have HNW := Lib.hid (newNumber_any 4607182418800017408 num_1 w1)
    go_wp2_with fail
    refine HNW.out.mono ?_
    rintro e w2 ⟨rfl, hb2⟩
    have hbw2 := hbw.trans (hb2.mono hbw.size)
    obtain ⟨zl, z0, z1, z2, z3, z4, z5, z6, z7, z8, z9, zf⟩ := (Z1.out.below hb2).facts
    clear hb2
    go_wp2
    exact bodyPost_ret (v := (.agg #[.string ⟨#[]⟩, .float .f64 (Fl.clean 4607182418800017408), .string ⟨#[]⟩, .slice none 0 0, .slice none 0 0, .bool false, .string ⟨#[]⟩, .int .u8 1, .pointer none, .pointer none])) (by simp [results, Tryz.results62, go_sem, zl, z0, z1, z2, z3, z4, z5, z6, z7, z8, z9, zf]) rfl ⟨Fl.clean 4607182418800017408, Fl.is_clean one_is, rfl, below10 hbw2 (Nat.le_refl _)⟩
  · have hx1 : (((R : Nat) : Int) == 1) = false := by rw [beq_eq_false_iff_ne]; omega
    have hxs : (((R : Nat) : Int) - 1 + 1) = R := by omega
    have HNW : Hid (∀ z : Int, z = R → Calls Tryz.prog 79 #[.float .f64 (floatOfInt .f64 z)] w1 fun e w' => e = .returned (.agg #[.string ⟨#[]⟩, .float .f64 (Fl.clean (floatOfInt .f64 R)), .string ⟨#[]⟩, .slice none 0 0, .slice none 0 0, .bool false, .string ⟨#[]⟩, .int .u8 1, .pointer none, .pointer none]) ∧ Below w1.heap.size w1 w') :=
      Lib.hid (by rintro z rfl; exact newNumber_any _ (Fl.is_num (HI.out _ rfl)) _)
    go_wp2_with fail
    refine (HNW.out _ (by omega)).mono ?_
    rintro e w2 ⟨rfl, hb2⟩
    have hbw2 := hbw.trans (hb2.mono hbw.size)
    obtain ⟨zl, z0, z1, z2, z3, z4, z5, z6, z7, z8, z9, zf⟩ := (Z1.out.below hb2).facts
    clear hb2
    go_wp2
    exact bodyPost_ret (v := (.agg #[.string ⟨#[]⟩, .float .f64 (Fl.clean (floatOfInt .f64 R)), .string ⟨#[]⟩, .slice none 0 0, .slice none 0 0, .bool false, .string ⟨#[]⟩, .int .u8 1, .pointer none, .pointer none])) (by simp [results, Tryz.results62, go_sem, zl, z0, z1, z2, z3, z4, z5, z6, z7, z8, z9, zf]) rfl ⟨Fl.clean (floatOfInt .f64 R), Fl.is_clean (HI.out _ rfl), rfl, below10 hbw2 (Nat.le_refl _)⟩

theorem here_ROWS (b off c m c1 : Nat) (A : Option Addr) (r : List Fv) (rs : List (List Fv)) (R C : Nat) (w0 : World) (h : ArgsIn w0 b off [⟨⟨5, 0, 0, ⟨#[]⟩⟩, A, m, c1⟩] [mat (r :: rs)]) (hm : m = R) (hr : r.length = C) (hR : R ≤ 1000) (hC : C ≤ 1000) :
    Here 69 (⟨#[82, 79, 87, 83]⟩ : ByteArray) (some ⟨b, off, none⟩) 1 c (FlatP (fun y => y = ⟨1, R, 1, ⟨#[]⟩⟩)) w0 := by
  intro w hbw
  have z0 := Zero5.new w
  have hbA : Below w.heap.size w (w.alloc (.cells #[.int .i64 0, .int .i64 0, .int .i64 0, .string ⟨#[]⟩, .slice none 0 0] 28)) := (Below.refl _ _).alloc (Nat.le_refl _) _
  have ha := (h.below hbw).below hbA
  have hR0 := ha.2.1 0 _ rfl
  have c0 : (w.alloc (.cells #[.int .i64 0, .int .i64 0, .int .i64 0, .string ⟨#[]⟩, .slice none 0 0] 28)).cell? ⟨b, off, none⟩ = some (.int .i64 5) := by have := hR0.2 0 _ rfl; simpa using this
  have c1' : (w.alloc (.cells #[.int .i64 0, .int .i64 0, .int .i64 0, .string ⟨#[]⟩, .slice none 0 0] 28)).cell? ⟨b, off + 1, none⟩ = some (.int .i64 0) := by have := hR0.2 1 _ rfl; simpa using this
  have c2 : (w.alloc (.cells #[.int .i64 0, .int .i64 0, .int .i64 0, .string ⟨#[]⟩, .slice none 0 0] 28)).cell? ⟨b, off + 2, none⟩ = some (.int .i64 0) := by have := hR0.2 2 _ rfl; simpa using this
  have c3 : (w.alloc (.cells #[.int .i64 0, .int .i64 0, .int .i64 0, .string ⟨#[]⟩, .slice none 0 0] 28)).cell? ⟨b, off + 3, none⟩ = some (.string ⟨#[]⟩) := by have := hR0.2 3 _ rfl; simpa using this
  have c4 : (w.alloc (.cells #[.int .i64 0, .int .i64 0, .int .i64 0, .string ⟨#[]⟩, .slice none 0 0] 28)).cell? ⟨b, off + 4, none⟩ = some (.slice A m c1) := by have := hR0.2 4 _ rfl; simpa using this
  have hrw : RowsIs 5 (w.alloc (.cells #[.int .i64 0, .int .i64 0, .int .i64 0, .string ⟨#[]⟩, .slice none 0 0] 28)) (· < (w.alloc (.cells #[.int .i64 0, .int .i64 0, .int .i64 0, .string ⟨#[]⟩, .slice none 0 0] 28)).heap.size) A m ((r :: rs).map fvs) := by
    obtain ⟨_, ⟨hk, _⟩ | ⟨_, hh⟩⟩ := ha.2.2.1.2 0 _ _ rfl rfl
    · exact absurd rfl hk
    · exact hh
  have HS := Lib.hid (shape_any A m c1 r rs _ hrw)
  have hblt : b < (w.alloc (.cells #[.int .i64 0, .int .i64 0, .int .i64 0, .string ⟨#[]⟩, .slice none 0 0] 28)).heap.size := ha.1
  rw [hr] at HS
  subst hm
  clear hR0 hrw ha h hr
  go_enter Tryz.func69, Tryz.ntmps69
  go_wp2_with fail
  refine HS.out.mono ?_
  rintro e w1 ⟨rfl, hb1⟩
  have z1 := z0.below hb1
  have hbw1 := hbA.trans (hb1.mono hbA.size)
  clear z0 hb1 c0 c1' c2 c3 c4 HS
  go_wp2_with fail
  refine (int_ok _ _ (by omega) (by omega)).mono ?_
  rintro e w2 ⟨rfl, hb2⟩
  have hbw2 := hbw1.trans (hb2.mono hbw1.size)
  obtain ⟨q, q0, q1, q2, q3, q4, qf⟩ := z1.below hb2
  clear z1 hb2 hbw1 hbA
  go_wp2
  exact bodyPost_ret (v := (.tuple #[(.agg #[.int .i64 1, .int .i64 m, .int .i64 1, .string ⟨#[]⟩, .slice none 0 0]), .bool true])) (by simp [results, Tryz.results69, go_sem, q, q0, q1, q2, q3, q4, qf]) rfl ⟨⟨⟨1, m, 1, ⟨#[]⟩⟩, none, 0, 0⟩, rfl, ⟨_, rfl, rfl⟩, below5 hbw2 (Nat.le_refl _)⟩

theorem agree_ROWS (b off c m c1 : Nat) (A : Option Addr) (r : List Fv) (rs : List (List Fv)) (w : World) (h : Rect (r :: rs)) (ha : ArgsIn w b off [⟨⟨5, 0, 0, ⟨#[]⟩⟩, A, m, c1⟩] [mat (r :: rs)]) :
    Calls Tryz.prog 12 #[.func (.func 23) #[] #[], .string (⟨#[82, 79, 87, 83]⟩ : ByteArray), .slice (some ⟨b, off, none⟩) 1 c] w fun e w' => e = .returned (.bool true) ∧ Below w.heap.size w w' := by
  have hfl : flatAll [mat (r :: rs)] = (r :: rs).flatten := by rw [flatAll_one, flatM_mat]
  have hlen : (r :: rs).length ≤ 120 := h.2.1
  obtain ⟨C, hC1, hC6, hCr⟩ := h.2.2
  have hrC : r.length = C := (hCr r (List.mem_cons_self ..)).1
  have hm : m = (r :: rs).length := by
    obtain ⟨_, ⟨hk, _⟩ | ⟨_, hh⟩⟩ := ha.2.2.1.2 0 _ _ rfl rfl
    · exact absurd rfl hk
    · have h2 : m = ((r :: rs).map fvs).length := hh.2.1
      rw [h2]; exact List.length_map _
  obtain ⟨R, hR⟩ : ∃ R, R = (r :: rs).length := ⟨_, rfl⟩
  rw [← hR] at hlen hm
  have hR0 : 0 < R := by rw [hR]; simp
  refine num_agrees 23 (⟨#[82, 79, 87, 83]⟩ : ByteArray) b off 1 c [⟨⟨5, 0, 0, ⟨#[]⟩⟩, A, m, c1⟩] [mat (r :: rs)] (fun y => y = ⟨1, R, 1, ⟨#[]⟩⟩) (fun z => Fl.Is z R) w (fun args W => by kernel_rfl) rfl ha (by omega) (by simp) (by rw [hfl]; have := h.total; omega) ?_ ?_ ?_ ?_
  · rintro y rfl
    refine .inr (.inl ⟨rfl, ?_, ?_, by simp [dens]⟩)
    · show (-99999999999 : Int) ≤ (R : Nat); omega
    · show ((R : Nat) : Int) ≤ 99999999999; omega
  · intro W hW
    have hd := call_over (⟨#[82, 79, 87, 83]⟩ : ByteArray) (some ⟨b, off, none⟩) 1 c (FlatP (fun y => y = ⟨1, R, 1, ⟨#[]⟩⟩)) (FlatP.lasts _) W (by
      intro W2 hW2
      have hW' := hW.trans (hW2.mono hW.size)
      exact over_Lookup _ _ _ _ _ (FlatP.lasts _) W2 (fits_ROWS b off 1 c [⟨⟨5, 0, 0, ⟨#[]⟩⟩, A, m, c1⟩] [mat (r :: rs)] W2 rfl (ha.below hW') (by intro m hm; simp at hm; subst hm; intro h2; cases h2) (by simp)) (Stat_ROWS _ _ _) (Criteria_ROWS _ _ _) (here_ROWS b off c m c1 A r rs R C W2 (ha.below hW') hm hrC (by omega) (by omega)))
    exact hd.mono fun e w1 h => h.flatP
  · intro hd W g cap G' hao
    refine impl_ROWS g 1 cap G' [(mat (r :: rs)).of] _ W rfl hao (by omega) (by simp) (of_mem_ok (M := [mat (r :: rs)]) ha.2.2.2 (rows_none ha.2.2.1) hd) (fun W p LB hl => ?_)
    obtain ⟨E, A2, c2, P, Q, h1, h2, h3, h4⟩ := list_range hl rfl
    have e1 : ((mat (r :: rs)).of.rows.headD []).length = C := by show (r.map Fv.of).length = C; rw [List.length_map]; exact hrC
    have e2 : (mat (r :: rs)).of.rows.length = R := by show ((r :: rs).map fun r => r.map Fv.of).length = R; rw [List.length_map, hR]
    rw [e1, e2] at h4
    exact ff_ROWS p LB E A2 _ c2 P Q C R W h1 h3 h4 (by omega) (by omega)
  · rintro hd y z rfl h6 hz
    refine ⟨rfl, rfl, ?_⟩
    rw [Fv.of_eq1]
    have hn := Fl.is_nb ((R : Nat) : Int) (by omega)
    show (FloatKind.f64.format.order z (Fl.nb _ 1) != some .eq) = false
    rw [show FloatKind.f64.format = Ieee.double from rfl, Fl.is_order hz hn]
    rfl

theorem fitsNumbers_COLUMNS (A : Option Addr) (L : List Ve) (c : Nat) (w : World) (hL : Args w A L) :
    Calls Tryz.prog 92 #[.string (⟨#[67, 79, 76, 85, 77, 78, 83]⟩ : ByteArray), .slice A L.length c] w fun e w' => e = .returned (.tuple #[.bool false, .bool false]) ∧ Below w.heap.size w w' := by
  have HE := numeric_all A L c w hL
  go_enter Tryz.func92, Tryz.ntmps92
  go_wp2_with fail
  refine HE.mono ?_
  rintro e w1 ⟨r, rfl, hb1⟩
  go_wp2
  go_ret2
  exact ⟨rfl, hb1⟩

theorem fitsTexts_COLUMNS (A : Option Addr) (n c : Nat) (w : World) :
    Calls Tryz.prog 93 #[.string (⟨#[67, 79, 76, 85, 77, 78, 83]⟩ : ByteArray), .slice A n c] w fun e w' => e = .returned (.tuple #[.bool false, .bool false]) ∧ Below w.heap.size w w' := by
  go_enter Tryz.func93, Tryz.ntmps93
  go_wp2
  go_ret2
  exact ⟨rfl, (by (repeat' (first | with_reducible exact Below.refl _ _ | with_reducible refine Below.setCell ?_ ?_ _ | with_reducible refine Below.alloc ?_ ?_ _ | with_reducible refine Below.drew ?_ | with_reducible refine Below.trans ?_ (Below.mono (by assumption) ?_))); all_goals (first | omega | (simp [World.setCell]; done) | (simp [World.setCell]; omega)))⟩

theorem fitsChoices_COLUMNS (A : Option Addr) (n c : Nat) (w : World) :
    Calls Tryz.prog 94 #[.string (⟨#[67, 79, 76, 85, 77, 78, 83]⟩ : ByteArray), .slice A n c] w fun e w' => e = .returned (.tuple #[.bool false, .bool false]) ∧ Below w.heap.size w w' := by
  go_enter Tryz.func94, Tryz.ntmps94
  go_wp2
  go_ret2
  exact ⟨rfl, (by (repeat' (first | with_reducible exact Below.refl _ _ | with_reducible refine Below.setCell ?_ ?_ _ | with_reducible refine Below.alloc ?_ ?_ _ | with_reducible refine Below.drew ?_ | with_reducible refine Below.trans ?_ (Below.mono (by assumption) ?_))); all_goals (first | omega | (simp [World.setCell]; done) | (simp [World.setCell]; omega)))⟩

theorem Stat_COLUMNS (A : Option Addr) (n c : Nat) (w : World) :
    Calls Tryz.prog 67 #[.string (⟨#[67, 79, 76, 85, 77, 78, 83]⟩ : ByteArray), .slice A n c] w fun e w' => e = .returned (.tuple #[(.agg #[.int .i64 0, .int .i64 0, .int .i64 0, .string ⟨#[]⟩, .slice none 0 0]), .bool false]) ∧ Below w.heap.size w w' := by
  go_enter Tryz.func67, Tryz.ntmps67
  go_wp2
  exact bodyPost_ret (v := (.tuple #[(.agg #[.int .i64 0, .int .i64 0, .int .i64 0, .string ⟨#[]⟩, .slice none 0 0]), .bool false])) (by simp [results, Tryz.results67, go_sem]) rfl ⟨rfl, (by (repeat' (first | with_reducible exact Below.refl _ _ | with_reducible refine Below.setCell ?_ ?_ _ | with_reducible refine Below.alloc ?_ ?_ _ | with_reducible refine Below.drew ?_ | with_reducible refine Below.trans ?_ (Below.mono (by assumption) ?_))); all_goals (first | omega | (simp [World.setCell]; done) | (simp [World.setCell]; omega)))⟩

theorem Criteria_COLUMNS (A : Option Addr) (n c : Nat) (w : World) :
    Calls Tryz.prog 68 #[.string (⟨#[67, 79, 76, 85, 77, 78, 83]⟩ : ByteArray), .slice A n c] w fun e w' => e = .returned (.tuple #[(.agg #[.int .i64 0, .int .i64 0, .int .i64 0, .string ⟨#[]⟩, .slice none 0 0]), .bool false]) ∧ Below w.heap.size w w' := by
  go_enter Tryz.func68, Tryz.ntmps68
  go_wp2
  exact bodyPost_ret (v := (.tuple #[(.agg #[.int .i64 0, .int .i64 0, .int .i64 0, .string ⟨#[]⟩, .slice none 0 0]), .bool false])) (by simp [results, Tryz.results68, go_sem]) rfl ⟨rfl, (by (repeat' (first | with_reducible exact Below.refl _ _ | with_reducible refine Below.setCell ?_ ?_ _ | with_reducible refine Below.alloc ?_ ?_ _ | with_reducible refine Below.drew ?_ | with_reducible refine Below.trans ?_ (Below.mono (by assumption) ?_))); all_goals (first | omega | (simp [World.setCell]; done) | (simp [World.setCell]; omega)))⟩

theorem others_COLUMNS (w : World) : Calls Tryz.prog 95 #[.string (⟨#[67, 79, 76, 85, 77, 78, 83]⟩ : ByteArray)] w fun e w' => e = .returned (.bool true) ∧ Below w.heap.size w w' := by
  go_enter Tryz.func95, Tryz.ntmps95
  go_wp2
  go_ret
  exact ⟨rfl, (by (repeat' (first | with_reducible exact Below.refl _ _ | with_reducible refine Below.setCell ?_ ?_ _ | with_reducible refine Below.alloc ?_ ?_ _ | with_reducible refine Below.drew ?_ | with_reducible refine Below.trans ?_ (Below.mono (by assumption) ?_))); all_goals (first | omega | (simp [World.setCell]; done) | (simp [World.setCell]; omega)))⟩


theorem fits_COLUMNS (b off n c : Nat) (G : List Ve) (M : List Mv) (w : World) (hn : n = M.length) (h : ArgsIn w b off G M) (ht : ∀ m ∈ M, m.x.k = 2 → m.x.s.size ≤ 2147483647) (hl : M.length ≤ 1000) : FitsIs (⟨#[67, 79, 76, 85, 77, 78, 83]⟩ : ByteArray) (some ⟨b, off, none⟩) n c true w := by
  intro W hW
  refine fits_others _ _ _ _ W (fun W3 h3 => ?_) (fun W3 _ => fitsTexts_COLUMNS _ _ _ W3) (fun W3 _ => fitsChoices_COLUMNS _ _ _ W3) (fun W3 => others_COLUMNS W3)
  have hA := args_of (h.below (hW.trans (h3.mono hW.size))) ht hl
  rw [hn, ← h.2.2.1.1]
  exact fitsNumbers_COLUMNS _ G c W3 hA


theorem door_COLUMNS (b n c : Nat) (G : List Vg) (M : List Mg) (P : Nat → Prop) (w : World) (hn : n = M.length) (ha : ArgsOut w b G M) (hlen : n ≤ 1000) (hok : ∀ m ∈ M, m.Ok)
    (hf : ∀ (W : World) (p : Addr) (LB : Nat), ListOut W LB M → Calls Tryz.prog 63 #[.pointer (some p), .pointer (some ⟨LB, 0, none⟩)] W (NumPost P W)) :
    Calls Tryz.prog 45 #[.slice (some ⟨b, 0, none⟩) n c] w (IntPost P w) := by
  have z0 := Zero4.new w 59
  have hbA : Below w.heap.size w (w.alloc (.cells #[.int .i64 0, .float .f64 0, .string ⟨#[]⟩, .slice none 0 0] 59)) := (Below.refl _ _).alloc (Nat.le_refl _) _
  have HA := Lib.hid (And.intro ha hok)
  have HF := Lib.hid hf
  have HN := Lib.hid hn
  clear ha hok hf hn
  go_enter Tryz.func45, Tryz.ntmps45
  go_wp2_with fail
  refine (doorFuncs_any _).mono ?_
  rintro e w1 ⟨rfl, hb1⟩
  have hbw1 := hbA.trans (hb1.mono (by simp))
  have z1 := z0.below hb1
  have ha1 : ArgsOut w1 b G M := ⟨Nat.lt_of_lt_of_le HA.out.1.1 hbw1.size, HA.out.1.2.1.below hbw1 HA.out.1.1, (HA.out.1.2.2.keep (Keep.below hbw1 fun _ h => h)).more fun q hq => Nat.lt_of_lt_of_le hq hbw1.size⟩
  have HA1 := Lib.hid ha1
  clear ha1
  go_wp2_with fail
  refine (innerList_any b n c G M w1 HN.out HA1.out hlen HA.out.2).mono ?_
  rintro e w2 ⟨rfl, hl, hb2⟩
  have hbw2 := hbw1.trans (hb2.mono hbw1.size)
  have z2 := z1.below hb2
  have HL := Lib.hid hl
  clear hl
  go_wp2_with fail
  refine (HF.out _ _ _ HL.out).mono ?_
  rintro e w3 ⟨z, hz, rfl, hb3⟩
  have hbw3 := hbw2.trans (hb3.mono hbw2.size)
  have z3 := z2.below hb3
  have HZ := Lib.hid hz
  clear hz
  go_wp2_with fail
  refine (doorArg_num z _).mono ?_
  rintro e w4 ⟨rfl, hb4⟩
  have hbw := hbw3.trans (hb4.mono hbw3.size)
  obtain ⟨q, q0, q1, q2, q3, qf⟩ := z3.below hb4
  clear z0 z1 z2 z3 hb1 hb2 hb3 hb4 hbw1 hbw2 hbw3 hbA
  go_wp2
  exact bodyPost_ret (v := (.agg #[.int .i64 1, .float .f64 z, .string ⟨#[]⟩, .slice none 0 0])) (by simp [results, Tryz.results45, go_sem, q, q0, q1, q2, q3, qf]) rfl ⟨z, HZ.out, rfl, (by (repeat' (first | with_reducible exact Below.refl _ _ | with_reducible refine Below.setCell ?_ ?_ _ | with_reducible refine Below.alloc ?_ ?_ _ | with_reducible refine Below.drew ?_ | with_reducible refine Below.trans ?_ (Below.mono (by assumption) ?_))); all_goals (first | omega | (simp [World.setCell]; done) | (simp [World.setCell]; omega)))⟩

theorem impl_COLUMNS (b n c : Nat) (G : List Vg) (M : List Mg) (P : Nat → Prop) (w : World) (hn : n = M.length) (ha : ArgsOut w b G M) (hlen : n ≤ 1000) (h0 : M ≠ []) (hok : ∀ m ∈ M, m.Ok)
    (hf : ∀ (W : World) (p : Addr) (LB : Nat), ListOut W LB M → Calls Tryz.prog 63 #[.pointer (some p), .pointer (some ⟨LB, 0, none⟩)] W (NumPost P W)) :
    Calls Tryz.prog 24 #[.slice (some ⟨b, 0, none⟩) n c] w (IntPost P w) := by
  have z0 := Zero4.new w 47
  have hbA : Below w.heap.size w (w.alloc (.cells #[.int .i64 0, .float .f64 0, .string ⟨#[]⟩, .slice none 0 0] 47)) := (Below.refl _ _).alloc (Nat.le_refl _) _
  have ha1 : ArgsOut (w.alloc (.cells #[.int .i64 0, .float .f64 0, .string ⟨#[]⟩, .slice none 0 0] 47)) b G M := ⟨Nat.lt_of_lt_of_le ha.1 hbA.size, ha.2.1.below hbA ha.1, (ha.2.2.keep (Keep.below hbA fun _ h => h)).more fun q hq => Nat.lt_of_lt_of_le hq hbA.size⟩
  have HA := Lib.hid (And.intro ha1 hok)
  have HF := Lib.hid hf
  have HN := Lib.hid (And.intro hn h0)
  clear ha hok hf hn ha1 h0
  go_enter Tryz.func24, Tryz.ntmps24
  go_wp2_with fail
  refine (in_any b n c G M _ HN.out.1 HA.out.1 hlen HN.out.2 (fun m hm => ⟨(HA.out.2 m hm).2.1, fun r hr => ((HA.out.2 m hm).2.2 r hr).1⟩)).mono ?_
  rintro e w1 ⟨g, cap, G', rfl, ha2, hb1⟩
  have hbw1 := hbA.trans (hb1.mono (by simp))
  have z1 := z0.below hb1
  have HA2 := Lib.hid ha2
  clear ha2
  go_wp2_with fail
  refine (door_COLUMNS g n cap G' M P _ HN.out.1 HA2.out hlen HA.out.2 HF.out).mono ?_
  rintro e w2 ⟨z, hz, rfl, hb2⟩
  have hbw2 := hbw1.trans (hb2.mono hbw1.size)
  have z2 := z1.below hb2
  have HZ := Lib.hid hz
  clear hz
  go_wp2_with fail
  refine (out_flat 1 z ⟨#[]⟩ _).mono ?_
  rintro e w3 ⟨rfl, hb3⟩
  have hbw := hbw2.trans (hb3.mono hbw2.size)
  obtain ⟨q, q0, q1, q2, q3, qf⟩ := z2.below hb3
  clear z0 z1 z2 hb1 hb2 hb3 hbw1 hbw2 hbA
  go_wp2
  exact bodyPost_ret (v := (.agg #[.int .i64 1, .float .f64 z, .string ⟨#[]⟩, .slice none 0 0])) (by simp [results, Tryz.results24, go_sem, q, q0, q1, q2, q3, qf]) rfl ⟨z, HZ.out, rfl, (by (repeat' (first | with_reducible exact Below.refl _ _ | with_reducible refine Below.setCell ?_ ?_ _ | with_reducible refine Below.alloc ?_ ?_ _ | with_reducible refine Below.drew ?_ | with_reducible refine Below.trans ?_ (Below.mono (by assumption) ?_))); all_goals (first | omega | (simp [World.setCell]; done) | (simp [World.setCell]; omega)))⟩


set_option maxHeartbeats 4000000 in
theorem ff_COLUMNS (p : Addr) (LB E : Nat) (A : Option Addr) (n c P Q C R : Nat) (w : World) (h : List1 w LB E (.iface 76 (FMat A n c P Q))) (hP : ListIs w (· < w.heap.size) P []) (hQ : ListIs w (· < w.heap.size) Q [cellsOf C R]) (h0 : 0 < C) (h1 : C ≤ 1000) :
    Calls Tryz.prog 63 #[.pointer (some p), .pointer (some ⟨LB, 0, none⟩)] w (NumPost (fun z => Fl.Is z C) w) := by
  have Z0 := Lib.hid (Zero10.new w)
  have hl := h.below ((Below.refl _ _).alloc (Nat.le_refl _) (.cells #[.string ⟨#[]⟩, .float .f64 0, .string ⟨#[]⟩, .slice none 0 0, .slice none 0 0, .bool false, .string ⟨#[]⟩, .int .u8 0, .pointer none, .pointer none] 76))
  have hbA : Below w.heap.size w (w.alloc (.cells #[.string ⟨#[]⟩, .float .f64 0, .string ⟨#[]⟩, .slice none 0 0, .slice none 0 0, .bool false, .string ⟨#[]⟩, .int .u8 0, .pointer none, .pointer none] 76)) := (Below.refl _ _).alloc (Nat.le_refl _) _
  have hP' := (hP.keep (Keep.below hbA fun _ hk => hk)).more fun q hq => Nat.lt_of_lt_of_le hq hbA.size
  have hQ' := (hQ.keep (Keep.below hbA fun _ hk => hk)).more fun q hq => Nat.lt_of_lt_of_le hq hbA.size
  have hl' := hl
  obtain ⟨_, _, _, _, r4, _, _, _⟩ := hl'
  have HC := Lib.hid (calc_true LB E A n c P Q C R _ hl hP' hQ' h0)
  have HI : Hid (∀ z : Int, z = C → Fl.Is (floatOfInt .f64 z) C) := Lib.hid (by rintro z rfl; exact Fl.is_ofInt _ (by omega))
  have hlim : (((C : Nat) : Int) == 16384) = false := by rw [beq_eq_false_iff_ne]; omega
  have HBA := Lib.hid hbA
  clear h hl hP hQ hP' hQ' hbA
  go_enter Tryz.func63, Tryz.ntmps63
  go_wp2_with fail
  refine (len_any _ _ _ r4).mono ?_
  rintro e v1 ⟨rfl, rfl⟩
  clear r4
  go_wp2_with fail
  refine HC.out.mono ?_
  rintro e w1 ⟨rfl, hb1⟩
  have hbw := HBA.out.trans (hb1.mono HBA.out.size)
  have Z1 := Lib.hid (Z0.out.below hb1)
  clear hb1 HC
  by_cases hx : C = 1
  · subst hx
    have HNW := Lib.hid (newNumber_any 4607182418800017408 num_1 w1)
    go_wp2_with fail
    refine HNW.out.mono ?_
    rintro e w2 ⟨rfl, hb2⟩
    have hbw2 := hbw.trans (hb2.mono hbw.size)
    obtain ⟨zl, z0, z1, z2, z3, z4, z5, z6, z7, z8, z9, zf⟩ := (Z1.out.below hb2).facts
    clear hb2
    go_wp2
    exact bodyPost_ret (v := (.agg #[.string ⟨#[]⟩, .float .f64 (Fl.clean 4607182418800017408), .string ⟨#[]⟩, .slice none 0 0, .slice none 0 0, .bool false, .string ⟨#[]⟩, .int .u8 1, .pointer none, .pointer none])) (by simp [results, Tryz.results63, go_sem, zl, z0, z1, z2, z3, z4, z5, z6, z7, z8, z9, zf]) rfl ⟨Fl.clean 4607182418800017408, Fl.is_clean one_is, rfl, below10 hbw2 (Nat.le_refl _)⟩
  · have hx1 : (((C : Nat) : Int) == 1) = false := by rw [beq_eq_false_iff_ne]; omega
    have hxs : (((C : Nat) : Int) - 1 + 1) = C := by omega
    have HNW : Hid (∀ z : Int, z = C → Calls Tryz.prog 79 #[.float .f64 (floatOfInt .f64 z)] w1 fun e w' => e = .returned (.agg #[.string ⟨#[]⟩, .float .f64 (Fl.clean (floatOfInt .f64 C)), .string ⟨#[]⟩, .slice none 0 0, .slice none 0 0, .bool false, .string ⟨#[]⟩, .int .u8 1, .pointer none, .pointer none]) ∧ Below w1.heap.size w1 w') :=
      Lib.hid (by rintro z rfl; exact newNumber_any _ (Fl.is_num (HI.out _ rfl)) _)
    go_wp2_with fail
    refine (HNW.out _ (by omega)).mono ?_
    rintro e w2 ⟨rfl, hb2⟩
    have hbw2 := hbw.trans (hb2.mono hbw.size)
    obtain ⟨zl, z0, z1, z2, z3, z4, z5, z6, z7, z8, z9, zf⟩ := (Z1.out.below hb2).facts
    clear hb2
    go_wp2
    exact bodyPost_ret (v := (.agg #[.string ⟨#[]⟩, .float .f64 (Fl.clean (floatOfInt .f64 C)), .string ⟨#[]⟩, .slice none 0 0, .slice none 0 0, .bool false, .string ⟨#[]⟩, .int .u8 1, .pointer none, .pointer none])) (by simp [results, Tryz.results63, go_sem, zl, z0, z1, z2, z3, z4, z5, z6, z7, z8, z9, zf]) rfl ⟨Fl.clean (floatOfInt .f64 C), Fl.is_clean (HI.out _ rfl), rfl, below10 hbw2 (Nat.le_refl _)⟩

theorem here_COLUMNS (b off c m c1 : Nat) (A : Option Addr) (r : List Fv) (rs : List (List Fv)) (R C : Nat) (w0 : World) (h : ArgsIn w0 b off [⟨⟨5, 0, 0, ⟨#[]⟩⟩, A, m, c1⟩] [mat (r :: rs)]) (hm : m = R) (hr : r.length = C) (hR : R ≤ 1000) (hC : C ≤ 1000) :
    Here 69 (⟨#[67, 79, 76, 85, 77, 78, 83]⟩ : ByteArray) (some ⟨b, off, none⟩) 1 c (FlatP (fun y => y = ⟨1, C, 1, ⟨#[]⟩⟩)) w0 := by
  intro w hbw
  have z0 := Zero5.new w
  have hbA : Below w.heap.size w (w.alloc (.cells #[.int .i64 0, .int .i64 0, .int .i64 0, .string ⟨#[]⟩, .slice none 0 0] 28)) := (Below.refl _ _).alloc (Nat.le_refl _) _
  have ha := (h.below hbw).below hbA
  have hR0 := ha.2.1 0 _ rfl
  have c0 : (w.alloc (.cells #[.int .i64 0, .int .i64 0, .int .i64 0, .string ⟨#[]⟩, .slice none 0 0] 28)).cell? ⟨b, off, none⟩ = some (.int .i64 5) := by have := hR0.2 0 _ rfl; simpa using this
  have c1' : (w.alloc (.cells #[.int .i64 0, .int .i64 0, .int .i64 0, .string ⟨#[]⟩, .slice none 0 0] 28)).cell? ⟨b, off + 1, none⟩ = some (.int .i64 0) := by have := hR0.2 1 _ rfl; simpa using this
  have c2 : (w.alloc (.cells #[.int .i64 0, .int .i64 0, .int .i64 0, .string ⟨#[]⟩, .slice none 0 0] 28)).cell? ⟨b, off + 2, none⟩ = some (.int .i64 0) := by have := hR0.2 2 _ rfl; simpa using this
  have c3 : (w.alloc (.cells #[.int .i64 0, .int .i64 0, .int .i64 0, .string ⟨#[]⟩, .slice none 0 0] 28)).cell? ⟨b, off + 3, none⟩ = some (.string ⟨#[]⟩) := by have := hR0.2 3 _ rfl; simpa using this
  have c4 : (w.alloc (.cells #[.int .i64 0, .int .i64 0, .int .i64 0, .string ⟨#[]⟩, .slice none 0 0] 28)).cell? ⟨b, off + 4, none⟩ = some (.slice A m c1) := by have := hR0.2 4 _ rfl; simpa using this
  have hrw : RowsIs 5 (w.alloc (.cells #[.int .i64 0, .int .i64 0, .int .i64 0, .string ⟨#[]⟩, .slice none 0 0] 28)) (· < (w.alloc (.cells #[.int .i64 0, .int .i64 0, .int .i64 0, .string ⟨#[]⟩, .slice none 0 0] 28)).heap.size) A m ((r :: rs).map fvs) := by
    obtain ⟨_, ⟨hk, _⟩ | ⟨_, hh⟩⟩ := ha.2.2.1.2 0 _ _ rfl rfl
    · exact absurd rfl hk
    · exact hh
  have HS := Lib.hid (shape_any A m c1 r rs _ hrw)
  have hblt : b < (w.alloc (.cells #[.int .i64 0, .int .i64 0, .int .i64 0, .string ⟨#[]⟩, .slice none 0 0] 28)).heap.size := ha.1
  rw [hr] at HS
  subst hm
  clear hR0 hrw ha h hr
  go_enter Tryz.func69, Tryz.ntmps69
  go_wp2_with fail
  refine HS.out.mono ?_
  rintro e w1 ⟨rfl, hb1⟩
  have z1 := z0.below hb1
  have hbw1 := hbA.trans (hb1.mono hbA.size)
  clear z0 hb1 c0 c1' c2 c3 c4 HS
  go_wp2_with fail
  refine (int_ok _ _ (by omega) (by omega)).mono ?_
  rintro e w2 ⟨rfl, hb2⟩
  have hbw2 := hbw1.trans (hb2.mono hbw1.size)
  obtain ⟨q, q0, q1, q2, q3, q4, qf⟩ := z1.below hb2
  clear z1 hb2 hbw1 hbA
  go_wp2
  exact bodyPost_ret (v := (.tuple #[(.agg #[.int .i64 1, .int .i64 C, .int .i64 1, .string ⟨#[]⟩, .slice none 0 0]), .bool true])) (by simp [results, Tryz.results69, go_sem, q, q0, q1, q2, q3, q4, qf]) rfl ⟨⟨⟨1, C, 1, ⟨#[]⟩⟩, none, 0, 0⟩, rfl, ⟨_, rfl, rfl⟩, below5 hbw2 (Nat.le_refl _)⟩

theorem agree_COLUMNS (b off c m c1 : Nat) (A : Option Addr) (r : List Fv) (rs : List (List Fv)) (w : World) (h : Rect (r :: rs)) (ha : ArgsIn w b off [⟨⟨5, 0, 0, ⟨#[]⟩⟩, A, m, c1⟩] [mat (r :: rs)]) :
    Calls Tryz.prog 12 #[.func (.func 24) #[] #[], .string (⟨#[67, 79, 76, 85, 77, 78, 83]⟩ : ByteArray), .slice (some ⟨b, off, none⟩) 1 c] w fun e w' => e = .returned (.bool true) ∧ Below w.heap.size w w' := by
  have hfl : flatAll [mat (r :: rs)] = (r :: rs).flatten := by rw [flatAll_one, flatM_mat]
  have hlen : (r :: rs).length ≤ 120 := h.2.1
  obtain ⟨C, hC1, hC6, hCr⟩ := h.2.2
  have hrC : r.length = C := (hCr r (List.mem_cons_self ..)).1
  have hm : m = (r :: rs).length := by
    obtain ⟨_, ⟨hk, _⟩ | ⟨_, hh⟩⟩ := ha.2.2.1.2 0 _ _ rfl rfl
    · exact absurd rfl hk
    · have h2 : m = ((r :: rs).map fvs).length := hh.2.1
      rw [h2]; exact List.length_map _
  obtain ⟨R, hR⟩ : ∃ R, R = (r :: rs).length := ⟨_, rfl⟩
  rw [← hR] at hlen hm
  have hR0 : 0 < R := by rw [hR]; simp
  refine num_agrees 24 (⟨#[67, 79, 76, 85, 77, 78, 83]⟩ : ByteArray) b off 1 c [⟨⟨5, 0, 0, ⟨#[]⟩⟩, A, m, c1⟩] [mat (r :: rs)] (fun y => y = ⟨1, C, 1, ⟨#[]⟩⟩) (fun z => Fl.Is z C) w (fun args W => by kernel_rfl) rfl ha (by omega) (by simp) (by rw [hfl]; have := h.total; omega) ?_ ?_ ?_ ?_
  · rintro y rfl
    refine .inr (.inl ⟨rfl, ?_, ?_, by simp [dens]⟩)
    · show (-99999999999 : Int) ≤ (C : Nat); omega
    · show ((C : Nat) : Int) ≤ 99999999999; omega
  · intro W hW
    have hd := call_over (⟨#[67, 79, 76, 85, 77, 78, 83]⟩ : ByteArray) (some ⟨b, off, none⟩) 1 c (FlatP (fun y => y = ⟨1, C, 1, ⟨#[]⟩⟩)) (FlatP.lasts _) W (by
      intro W2 hW2
      have hW' := hW.trans (hW2.mono hW.size)
      exact over_Lookup _ _ _ _ _ (FlatP.lasts _) W2 (fits_COLUMNS b off 1 c [⟨⟨5, 0, 0, ⟨#[]⟩⟩, A, m, c1⟩] [mat (r :: rs)] W2 rfl (ha.below hW') (by intro m hm; simp at hm; subst hm; intro h2; cases h2) (by simp)) (Stat_COLUMNS _ _ _) (Criteria_COLUMNS _ _ _) (here_COLUMNS b off c m c1 A r rs R C W2 (ha.below hW') hm hrC (by omega) (by omega)))
    exact hd.mono fun e w1 h => h.flatP
  · intro hd W g cap G' hao
    refine impl_COLUMNS g 1 cap G' [(mat (r :: rs)).of] _ W rfl hao (by omega) (by simp) (of_mem_ok (M := [mat (r :: rs)]) ha.2.2.2 (rows_none ha.2.2.1) hd) (fun W p LB hl => ?_)
    obtain ⟨E, A2, c2, P, Q, h1, h2, h3, h4⟩ := list_range hl rfl
    have e1 : ((mat (r :: rs)).of.rows.headD []).length = C := by show (r.map Fv.of).length = C; rw [List.length_map]; exact hrC
    have e2 : (mat (r :: rs)).of.rows.length = R := by show ((r :: rs).map fun r => r.map Fv.of).length = R; rw [List.length_map, hR]
    rw [e1, e2] at h4
    exact ff_COLUMNS p LB E A2 _ c2 P Q C R W h1 h3 h4 (by omega) (by omega)
  · rintro hd y z rfl h6 hz
    refine ⟨rfl, rfl, ?_⟩
    rw [Fv.of_eq1]
    have hn := Fl.is_nb ((C : Nat) : Int) (by omega)
    show (FloatKind.f64.format.order z (Fl.nb _ 1) != some .eq) = false
    rw [show FloatKind.f64.format = Ieee.double from rfl, Fl.is_order hz hn]
    rfl


theorem law_Shape (A : Option Addr) (c : Nat) (X : List It) (cols : Int) (w : World) (hx : ItemsIn w A c X) (h1 : -9223372036854775808 ≤ cols) (h2 : cols ≤ 9223372036854775807) :
    Calls Tryz.prog 9 #[.slice A X.length c, .int .i64 cols] w fun e w' => e = .returned (.bool true) ∧ Below w.heap.size w w' := by
  obtain ⟨hsrc, hlc, hcc, hok⟩ := hx
  have HX := Lib.hid (And.intro hsrc (And.intro hok (And.intro h1 h2)))
  clear hsrc hok h1 h2
  go_enter Tryz.func9, Tryz.ntmps9
  go_wp2_with fail
  refine (fits1_any A c X w HX.out.1 (by omega)).mono ?_
  rintro e w1 ⟨b, rfl, hb, hb1⟩
  have HB := Lib.hid hb
  clear hb
  cases b
  · go_wp2
    go_ret
    exact ⟨rfl, hb1⟩
  · go_wp2_with fail
    refine (tableOf_any A c X cols w1 ((HX.out.1.below hb1 (Nat.le_refl _)).more hb1.size) (by omega) hlc hcc (fun x hx => ⟨HX.out.2.1 x hx, HB.out trivial x hx⟩) HX.out.2.2.1 HX.out.2.2.2).mono ?_
    rintro e w2 ⟨A', m, c', rows, rfl, hrs, hrect, hb2⟩
    obtain ⟨r, rs, rfl⟩ := List.exists_cons_of_ne_nil hrect.1
    have HR := Lib.hid (And.intro hrect (range_args c' hrs hrect))
    have hbw := hb1.trans (hb2.mono hb1.size)
    clear hrs hrect hb2
    go_wp2_with fail
    refine (agree_ROWS _ 0 1 m c' A' r rs _ HR.out.1 HR.out.2).mono ?_
    rintro e w3 ⟨rfl, hb3⟩
    have hbw3 : Below w.heap.size w w3 := (hbw.alloc hbw.size _).trans (hb3.mono (by simp; have := hbw.size; omega))
    clear HR hb3
    go_wp2_with fail
    refine (tableOf_any A c X cols w3 ((HX.out.1.below hbw3 (Nat.le_refl _)).more hbw3.size) (by omega) hlc hcc (fun x hx => ⟨HX.out.2.1 x hx, HB.out trivial x hx⟩) HX.out.2.2.1 HX.out.2.2.2).mono ?_
    rintro e w4 ⟨A2, m2, c2, rows2, rfl, hrs, hrect, hb4⟩
    obtain ⟨r2, rs2, rfl⟩ := List.exists_cons_of_ne_nil hrect.1
    have HR := Lib.hid (And.intro hrect (range_args c2 hrs hrect))
    have hbw4 := hbw3.trans (hb4.mono hbw3.size)
    clear hrs hrect hb4
    go_wp2_with fail
    refine (agree_COLUMNS _ 0 1 m2 c2 A2 r2 rs2 _ HR.out.1 HR.out.2).mono ?_
    rintro e w5 ⟨rfl, hb5⟩
    have hbw5 : Below w.heap.size w w5 := (hbw4.alloc hbw4.size _).trans (hb5.mono (by simp; have := hbw4.size; omega))
    go_wp2
    go_ret
    exact ⟨rfl, hbw5⟩

end Go.Proofs.YtmlcaamgkgdgoaaGreat
