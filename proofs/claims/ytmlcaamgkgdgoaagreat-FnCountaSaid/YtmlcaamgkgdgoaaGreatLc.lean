/- COUNTA: what the reference says of a range and single values, what the package says, and that both agree. -/
import Derived.Test.YtmlcaamgkgdgoaaGreatNm
import Derived.Test.YtmlcaamgkgdgoaaGreatLw
import Derived.Test.YtmlcaamgkgdgoaaGreatLs
set_option linter.unusedSimpArgs false
set_option linter.unusedVariables false
namespace Go.Proofs.YtmlcaamgkgdgoaaGreat
open Go.RowKit
set_option maxRecDepth 100000
set_option maxHeartbeats 1000000

theorem fitsNumbers_COUNTA (A : Option Addr) (L : List Ve) (c : Nat) (w : World) (hL : Args w A L) :
    Calls Tryz.prog 92 #[.string (⟨#[67, 79, 85, 78, 84, 65]⟩ : ByteArray), .slice A L.length c] w fun e w' => e = .returned (.tuple #[.bool false, .bool false]) ∧ Below w.heap.size w w' := by
  have HE := numeric_all A L c w hL
  go_enter Tryz.func92, Tryz.ntmps92
  go_wp2_with fail
  refine HE.mono ?_
  rintro e w1 ⟨r, rfl, hb1⟩
  go_wp2
  go_ret2
  exact ⟨rfl, hb1⟩

theorem fitsTexts_COUNTA (A : Option Addr) (n c : Nat) (w : World) :
    Calls Tryz.prog 93 #[.string (⟨#[67, 79, 85, 78, 84, 65]⟩ : ByteArray), .slice A n c] w fun e w' => e = .returned (.tuple #[.bool false, .bool false]) ∧ Below w.heap.size w w' := by
  go_enter Tryz.func93, Tryz.ntmps93
  go_wp2
  go_ret2
  exact ⟨rfl, (by (repeat' (first | with_reducible exact Below.refl _ _ | with_reducible refine Below.setCell ?_ ?_ _ | with_reducible refine Below.alloc ?_ ?_ _ | with_reducible refine Below.drew ?_ | with_reducible refine Below.trans ?_ (Below.mono (by assumption) ?_))); all_goals (first | omega | (simp [World.setCell]; done) | (simp [World.setCell]; omega)))⟩

theorem fitsChoices_COUNTA (A : Option Addr) (n c : Nat) (w : World) :
    Calls Tryz.prog 94 #[.string (⟨#[67, 79, 85, 78, 84, 65]⟩ : ByteArray), .slice A n c] w fun e w' => e = .returned (.tuple #[.bool false, .bool false]) ∧ Below w.heap.size w w' := by
  go_enter Tryz.func94, Tryz.ntmps94
  go_wp2
  go_ret2
  exact ⟨rfl, (by (repeat' (first | with_reducible exact Below.refl _ _ | with_reducible refine Below.setCell ?_ ?_ _ | with_reducible refine Below.alloc ?_ ?_ _ | with_reducible refine Below.drew ?_ | with_reducible refine Below.trans ?_ (Below.mono (by assumption) ?_))); all_goals (first | omega | (simp [World.setCell]; done) | (simp [World.setCell]; omega)))⟩

theorem others_COUNTA (w : World) : Calls Tryz.prog 95 #[.string (⟨#[67, 79, 85, 78, 84, 65]⟩ : ByteArray)] w fun e w' => e = .returned (.bool true) ∧ Below w.heap.size w w' := by
  go_enter Tryz.func95, Tryz.ntmps95
  go_wp2
  go_ret
  exact ⟨rfl, (by (repeat' (first | with_reducible exact Below.refl _ _ | with_reducible refine Below.setCell ?_ ?_ _ | with_reducible refine Below.alloc ?_ ?_ _ | with_reducible refine Below.drew ?_ | with_reducible refine Below.trans ?_ (Below.mono (by assumption) ?_))); all_goals (first | omega | (simp [World.setCell]; done) | (simp [World.setCell]; omega)))⟩


theorem fits_COUNTA (b off n c : Nat) (G : List Ve) (M : List Mv) (w : World) (hn : n = M.length) (h : ArgsIn w b off G M) (ht : ∀ m ∈ M, m.x.k = 2 → m.x.s.size ≤ 2147483647) (hl : M.length ≤ 1000) : FitsIs (⟨#[67, 79, 85, 78, 84, 65]⟩ : ByteArray) (some ⟨b, off, none⟩) n c true w := by
  intro W hW
  refine fits_others _ _ _ _ W (fun W3 h3 => ?_) (fun W3 _ => fitsTexts_COUNTA _ _ _ W3) (fun W3 _ => fitsChoices_COUNTA _ _ _ W3) (fun W3 => others_COUNTA W3)
  have hA := args_of (h.below (hW.trans (h3.mono hW.size))) ht hl
  rw [hn, ← h.2.2.1.1]
  exact fitsNumbers_COUNTA _ G c W3 hA


theorem here_COUNTA (b off n c : Nat) (Pf : Fv → Prop) (fn : Nat) (w0 : World) (h : ∀ W, Below w0.heap.size w0 W → Calls Tryz.prog 110 #[.slice (some ⟨b, off, none⟩) n c] W fun e w' => ∃ y, Pf y ∧ e = .returned (.agg #[.int .i64 y.k, .int .i64 y.n, .int .i64 y.d, .string y.s, .slice none 0 0]) ∧ Below W.heap.size W w') :
    Here 67 (⟨#[67, 79, 85, 78, 84, 65]⟩ : ByteArray) (some ⟨b, off, none⟩) n c (FlatP Pf) w0 := by
  intro w hbw
  have HH := Lib.hid h
  have z0 := Zero5.new w
  clear h
  go_enter Tryz.func67, Tryz.ntmps67
  go_wp2_with fail
  refine (HH.out _ (hbw.alloc hbw.size _)).mono ?_
  rintro e w1 ⟨y, hy, rfl, hb1⟩
  have HY := Lib.hid hy
  obtain ⟨q, q0, q1, q2, q3, q4, qf⟩ := z0.below hb1
  clear z0 hy
  go_wp2
  exact bodyPost_ret (v := (.tuple #[(.agg #[.int .i64 y.k, .int .i64 y.n, .int .i64 y.d, .string y.s, .slice none 0 0]), .bool true])) (by simp [results, Tryz.results67, go_sem, q, q0, q1, q2, q3, q4, qf]) rfl ⟨⟨y, none, 0, 0⟩, rfl, ⟨y, HY.out, rfl⟩, (by (repeat' (first | with_reducible exact Below.refl _ _ | with_reducible refine Below.setCell ?_ ?_ _ | with_reducible refine Below.alloc ?_ ?_ _ | with_reducible refine Below.drew ?_ | with_reducible refine Below.trans ?_ (Below.mono (by assumption) ?_))); all_goals (first | omega | (simp [World.setCell]; done) | (simp [World.setCell]; omega)))⟩


theorem door_COUNTA (b n c : Nat) (G : List Vg) (M : List Mg) (P : Nat → Prop) (w : World) (hn : n = M.length) (ha : ArgsOut w b G M) (hlen : n ≤ 1000) (hok : ∀ m ∈ M, m.Ok)
    (hf : ∀ (W : World) (p : Addr) (LB : Nat), ListOut W LB M → Calls Tryz.prog 58 #[.pointer (some p), .pointer (some ⟨LB, 0, none⟩)] W (NumPost P W)) :
    Calls Tryz.prog 38 #[.slice (some ⟨b, 0, none⟩) n c] w (IntPost P w) := by
  have z0 := Zero4.new w 59
  have hbA : Below w.heap.size w (w.alloc (.cells #[.int .i64 0, .float .f64 0, .string ⟨#[]⟩, .slice none 0 0] 59)) := (Below.refl _ _).alloc (Nat.le_refl _) _
  have HA := Lib.hid (And.intro ha hok)
  have HF := Lib.hid hf
  have HN := Lib.hid hn
  clear ha hok hf hn
  go_enter Tryz.func38, Tryz.ntmps38
  go_wp2_with fail
  refine (doorFuncs_any _).mono ?_
  rintro e w1 ⟨rfl, hb1⟩
  have hbw1 := hbA.trans (hb1.mono (by simp))
  have z1 := z0.below hb1
  have ha1 : ArgsOut w1 b G M := ⟨Nat.lt_of_lt_of_le HA.out.1.1 hbw1.size, HA.out.1.2.1.below hbw1 HA.out.1.1, (HA.out.1.2.2.keep (Keep.below hbw1 fun _ h => h)).more fun q hq => Nat.lt_of_lt_of_le hq hbw1.size⟩
  have HA1 := Lib.hid ha1
  clear ha1
  go_wp2_with fail
  refine (innerList_any b n c G M w1 HN.out HA1.out hlen HA.out.2).mono ?_
  rintro e w2 ⟨rfl, hl, hb2⟩
  have hbw2 := hbw1.trans (hb2.mono hbw1.size)
  have z2 := z1.below hb2
  have HL := Lib.hid hl
  clear hl
  go_wp2_with fail
  refine (HF.out _ _ _ HL.out).mono ?_
  rintro e w3 ⟨z, hz, rfl, hb3⟩
  have hbw3 := hbw2.trans (hb3.mono hbw2.size)
  have z3 := z2.below hb3
  have HZ := Lib.hid hz
  clear hz
  go_wp2_with fail
  refine (doorArg_num z _).mono ?_
  rintro e w4 ⟨rfl, hb4⟩
  have hbw := hbw3.trans (hb4.mono hbw3.size)
  obtain ⟨q, q0, q1, q2, q3, qf⟩ := z3.below hb4
  clear z0 z1 z2 z3 hb1 hb2 hb3 hb4 hbw1 hbw2 hbw3 hbA
  go_wp2
  exact bodyPost_ret (v := (.agg #[.int .i64 1, .float .f64 z, .string ⟨#[]⟩, .slice none 0 0])) (by simp [results, Tryz.results38, go_sem, q, q0, q1, q2, q3, qf]) rfl ⟨z, HZ.out, rfl, (by (repeat' (first | with_reducible exact Below.refl _ _ | with_reducible refine Below.setCell ?_ ?_ _ | with_reducible refine Below.alloc ?_ ?_ _ | with_reducible refine Below.drew ?_ | with_reducible refine Below.trans ?_ (Below.mono (by assumption) ?_))); all_goals (first | omega | (simp [World.setCell]; done) | (simp [World.setCell]; omega)))⟩

theorem impl_COUNTA (b n c : Nat) (G : List Vg) (M : List Mg) (P : Nat → Prop) (w : World) (hn : n = M.length) (ha : ArgsOut w b G M) (hlen : n ≤ 1000) (h0 : M ≠ []) (hok : ∀ m ∈ M, m.Ok)
    (hf : ∀ (W : World) (p : Addr) (LB : Nat), ListOut W LB M → Calls Tryz.prog 58 #[.pointer (some p), .pointer (some ⟨LB, 0, none⟩)] W (NumPost P W)) :
    Calls Tryz.prog 15 #[.slice (some ⟨b, 0, none⟩) n c] w (IntPost P w) := by
  have z0 := Zero4.new w 47
  have hbA : Below w.heap.size w (w.alloc (.cells #[.int .i64 0, .float .f64 0, .string ⟨#[]⟩, .slice none 0 0] 47)) := (Below.refl _ _).alloc (Nat.le_refl _) _
  have ha1 : ArgsOut (w.alloc (.cells #[.int .i64 0, .float .f64 0, .string ⟨#[]⟩, .slice none 0 0] 47)) b G M := ⟨Nat.lt_of_lt_of_le ha.1 hbA.size, ha.2.1.below hbA ha.1, (ha.2.2.keep (Keep.below hbA fun _ h => h)).more fun q hq => Nat.lt_of_lt_of_le hq hbA.size⟩
  have HA := Lib.hid (And.intro ha1 hok)
  have HF := Lib.hid hf
  have HN := Lib.hid (And.intro hn h0)
  clear ha hok hf hn ha1 h0
  go_enter Tryz.func15, Tryz.ntmps15
  go_wp2_with fail
  refine (in_any b n c G M _ HN.out.1 HA.out.1 hlen HN.out.2 (fun m hm => ⟨(HA.out.2 m hm).2.1, fun r hr => ((HA.out.2 m hm).2.2 r hr).1⟩)).mono ?_
  rintro e w1 ⟨g, cap, G', rfl, ha2, hb1⟩
  have hbw1 := hbA.trans (hb1.mono (by simp))
  have z1 := z0.below hb1
  have HA2 := Lib.hid ha2
  clear ha2
  go_wp2_with fail
  refine (door_COUNTA g n cap G' M P _ HN.out.1 HA2.out hlen HA.out.2 HF.out).mono ?_
  rintro e w2 ⟨z, hz, rfl, hb2⟩
  have hbw2 := hbw1.trans (hb2.mono hbw1.size)
  have z2 := z1.below hb2
  have HZ := Lib.hid hz
  clear hz
  go_wp2_with fail
  refine (out_flat 1 z ⟨#[]⟩ _).mono ?_
  rintro e w3 ⟨rfl, hb3⟩
  have hbw := hbw2.trans (hb3.mono hbw2.size)
  obtain ⟨q, q0, q1, q2, q3, qf⟩ := z2.below hb3
  clear z0 z1 z2 hb1 hb2 hb3 hbw1 hbw2 hbA
  go_wp2
  exact bodyPost_ret (v := (.agg #[.int .i64 1, .float .f64 z, .string ⟨#[]⟩, .slice none 0 0])) (by simp [results, Tryz.results15, go_sem, q, q0, q1, q2, q3, qf]) rfl ⟨z, HZ.out, rfl, (by (repeat' (first | with_reducible exact Below.refl _ _ | with_reducible refine Below.setCell ?_ ?_ _ | with_reducible refine Below.alloc ?_ ?_ _ | with_reducible refine Below.drew ?_ | with_reducible refine Below.trans ?_ (Below.mono (by assumption) ?_))); all_goals (first | omega | (simp [World.setCell]; done) | (simp [World.setCell]; omega)))⟩


theorem ct_of (x : Fv) : cT x.of = cnt x := by
  have hk : x.of.k = x.k := rfl
  unfold cT tyOf cnt
  rw [hk]
  by_cases h1 : x.k = 1
  · simp [h1]
  · by_cases h2 : x.k = 2
    · simp [h2]
    · by_cases h3 : x.k = 3
      · simp [h3]
      · by_cases h4 : x.k = 4
        · simp [h1, h2, h3, h4]
        · simp [h1, h2, h3, h4]
theorem cr_of (xs : List Fv) : ((xs.map Fv.of).filter cT).length = kn xs := by
  unfold kn
  induction xs with
  | nil => rfl
  | cons x r ih =>
    rw [List.map_cons, List.filter_cons, List.filter_cons, ct_of]
    cases cnt x
    · simpa using ih
    · simpa using ih
theorem ca_of (m : Mv) : cA m.of = kn (flatM m) := by
  unfold cA flatM
  by_cases h : m.x.k = 5
  · rw [if_pos (by exact h), if_pos h]
    show ((m.rows.map fun r => r.map Fv.of).flatten.filter cT).length = _
    rw [← List.map_flatten]
    exact cr_of _
  · rw [if_neg (by exact h), if_neg h]
    show (if cT m.x.of then 1 else 0) = _
    rw [ct_of]
    unfold kn
    cases hc : cnt m.x <;> simp [hc]
theorem kn_append (a b : List Fv) : kn (a ++ b) = kn a + kn b := by unfold kn; rw [List.filter_append, List.length_append]
theorem cs_of (M : List Mv) : cS (M.map Mv.of) = kn (flatAll M) := by
  unfold cS flatAll
  induction M with
  | nil => rfl
  | cons m r ih =>
    rw [List.map_cons, List.map_cons, List.sum_cons, List.map_cons, List.flatten_cons, kn_append, ih, ca_of]

theorem flatM_sing {x : Fv} (h : x.Ok) : flatM (sing x) = [x] := by
  unfold flatM sing
  rw [if_neg (by rcases h with (h | h | h | h) | ⟨h, _⟩ | ⟨h, _⟩ <;> rw [h] <;> decide)]
theorem flat_with (rows : List (List Fv)) (L : List Fv) (h : ∀ x ∈ L, x.Ok) : flatAll (mat rows :: L.map sing) = rows.flatten ++ L := by
  unfold flatAll
  rw [List.map_cons, List.flatten_cons, flatM_mat]
  congr 1
  induction L with
  | nil => rfl
  | cons x r ih =>
    rw [List.map_cons, List.map_cons, List.flatten_cons, flatM_sing (h x (List.mem_cons_self ..)), ih fun y hy => h y (List.mem_cons_of_mem _ hy)]
    rfl

theorem agree_COUNTA (b c : Nat) (G : List Ve) (rows : List (List Fv)) (L : List Fv) (n : Nat) (w : World) (hn : n = 1 + L.length) (h : Rect rows) (hL : L.length ≤ 10) (hc : ∀ x ∈ L, x.Cell) (ha : ArgsIn w b 0 G (mat rows :: L.map sing)) :
    Calls Tryz.prog 12 #[.func (.func 15) #[] #[], .string (⟨#[67, 79, 85, 78, 84, 65]⟩ : ByteArray), .slice (some ⟨b, 0, none⟩) n c] w fun e w' => e = .returned (.bool true) ∧ Below w.heap.size w w' := by
  have hfl := flat_with rows L fun x hx => (hc x hx).1
  have htot := h.total
  have hlen : (mat rows :: L.map sing).length = n := by simp; omega
  have hcell : ∀ x ∈ flatAll (mat rows :: L.map sing), x.Ok := by
    rw [hfl]; intro x hx
    rcases List.mem_append.1 hx with hx | hx
    · exact (h.cells x hx).1
    · exact (hc x hx).1
  have htx : ∀ m ∈ (mat rows :: L.map sing), m.x.k = 2 → m.x.s.size ≤ 2147483647 := by
    intro m hm
    rcases List.mem_cons.1 hm with rfl | hm
    · intro h2; cases h2
    · obtain ⟨x, hx, rfl⟩ := List.mem_map.1 hm
      exact (hc x hx).2.2.1
  refine num_agrees 15 (⟨#[67, 79, 85, 78, 84, 65]⟩ : ByteArray) b 0 n c G (mat rows :: L.map sing) (CountW (flatAll (mat rows :: L.map sing))) (fun z => Fl.Is z (cS ((mat rows :: L.map sing).map Mv.of))) w (fun args W => by kernel_rfl) hlen.symm ha (by omega) (by simp) (by rw [hfl, List.length_append]; omega) ?_ ?_ ?_ ?_
  · rintro y (hy | ⟨hy, _⟩)
    · subst hy; exact .inl (.inr (.inr (.inr rfl)))
    · subst hy
      have := kn_le (flatAll (mat rows :: L.map sing))
      rw [hfl, List.length_append] at this
      refine .inr (.inl ⟨rfl, ?_, ?_, by simp [dens]⟩)
      · show (-99999999999 : Int) ≤ (kn _ : Int); omega
      · show (kn _ : Int) ≤ 99999999999; rw [hfl]; omega
  · intro W hW
    have hd := call_over (⟨#[67, 79, 85, 78, 84, 65]⟩ : ByteArray) (some ⟨b, 0, none⟩) n c (FlatP (CountW (flatAll (mat rows :: L.map sing)))) (FlatP.lasts _) W (by
      intro W2 hW2
      have hW' := hW.trans (hW2.mono hW.size)
      refine over_Stat _ _ _ _ _ (FlatP.lasts _) W2 (fits_COUNTA b 0 n c G (mat rows :: L.map sing) W2 hlen.symm (ha.below hW') htx (by omega)) (here_COUNTA b 0 n c _ 0 W2 ?_)
      intro W3 hW3
      exact counta_any b 0 n c G (mat rows :: L.map sing) W3 hlen.symm (by omega) (ha.below (hW'.trans (hW3.mono hW'.size))) (by omega) (by rw [hfl, List.length_append]; omega) hcell)
    exact hd.mono fun e w1 h => h.flatP
  · intro hd W g cap G' hao
    refine impl_COUNTA g n cap G' ((mat rows :: L.map sing).map Mv.of) _ W (by rw [List.length_map, hlen]) hao (by omega) (by simp) (of_mem_ok (M := mat rows :: L.map sing) ha.2.2.2 (rows_none ha.2.2.1) hd) (fun W p LB hl => ff_COUNTA p LB _ W hl (by simp) (by rw [List.length_map, hlen]; omega) ?_)
    intro m hm
    obtain ⟨m0, hm0, rfl⟩ := List.mem_map.1 hm
    rcases List.mem_cons.1 hm0 with rfl | hm0
    · show (rows.map fun r => r.map Fv.of).length ≤ 1000 ∧ (rows.map fun r => r.map Fv.of).flatten.length ≤ 1000
      rw [← List.map_flatten, List.length_map, List.length_map]
      have := h.2.1
      exact ⟨by omega, by omega⟩
    · obtain ⟨x, hx, rfl⟩ := List.mem_map.1 hm0
      exact ⟨by show ([] : List (List Gl)).length ≤ 1000; simp, by show ([] : List (List Gl)).flatten.length ≤ 1000; simp⟩
  · rintro hd y z (hy | ⟨hy, h46⟩) h6 hz
    · subst hy; exact absurd rfl h6
    · subst hy
      refine ⟨rfl, rfl, ?_⟩
      rw [Fv.of_eq1]
      rw [cs_of] at hz
      have := kn_le (flatAll (mat rows :: L.map sing))
      rw [hfl, List.length_append] at this
      have hn := Fl.is_nb ((kn (flatAll (mat rows :: L.map sing)) : Nat) : Int) (by rw [hfl]; omega)
      show (FloatKind.f64.format.order z (Fl.nb _ 1) != some .eq) = false
      rw [show FloatKind.f64.format = Ieee.double from rfl, Fl.is_order hz hn]
      rfl

theorem law_COUNTA (A : Option Addr) (c : Nat) (X : List It) (cols : Int) (A2 : Option Addr) (c2 : Nat) (X2 : List It) (w : World) (hx : ItemsIn w A c X) (h1 : -9223372036854775808 ≤ cols) (h2 : cols ≤ 9223372036854775807) (hx2 : ItemsIn w A2 c2 X2) :
    Calls Tryz.prog 4 #[.slice A X.length c, .int .i64 cols, .slice A2 X2.length c2] w fun e w' => e = .returned (.bool true) ∧ Below w.heap.size w w' := by
  have HX := Lib.hid (And.intro hx (And.intro hx2 (And.intro h1 h2)))
  have hl : X.length ≤ 9223372036854775807 := by have := hx.2.1; have := hx.2.2.1; omega
  have hl2 : X2.length ≤ 9223372036854775807 := by have := hx2.2.1; have := hx2.2.2.1; omega
  clear hx h1 h2 hx2
  go_enter Tryz.func4, Tryz.ntmps4
  go_wp2_with fail
  refine (fits1_any A c X w HX.out.1.1 hl).mono ?_
  rintro e w1 ⟨b, rfl, hb, hb1⟩
  have HB := Lib.hid hb
  clear hb
  cases b
  · go_wp2
    go_ret
    exact ⟨rfl, hb1⟩
  · go_wp2_with fail
    refine (fits1_any A2 c2 X2 w1 ((HX.out.2.1.1.below hb1 (Nat.le_refl _)).more hb1.size) hl2).mono ?_
    rintro e w2 ⟨b, rfl, hb, hb2⟩
    have HB2 := Lib.hid hb
    have hbw2 := hb1.trans (hb2.mono hb1.size)
    clear hb
    cases b
    · go_wp2
      go_ret
      exact ⟨rfl, hbw2⟩
    · go_wp2_with fail
      refine (with_any A c X cols A2 c2 X2 w2 ⟨(HX.out.1.1.below hbw2 (Nat.le_refl _)).more hbw2.size, HX.out.1.2⟩ (HB.out trivial) HX.out.2.2.1 HX.out.2.2.2 ⟨(HX.out.2.1.1.below hbw2 (Nat.le_refl _)).more hbw2.size, HX.out.2.1.2⟩ (HB2.out trivial)).mono ?_
      rintro e w3 ⟨g, cap, G, rows, L, rfl, ha, hrect, hL, hLc, hb3⟩
      have HR := Lib.hid (And.intro ha (And.intro hrect hLc))
      have hbw3 := hbw2.trans (hb3.mono hbw2.size)
      clear ha hrect hLc
      go_wp2_with fail
      refine (agree_COUNTA g cap G rows L _ w3 rfl HR.out.2.1 hL HR.out.2.2 HR.out.1).mono ?_
      rintro e w4 ⟨rfl, hb4⟩
      have hbw4 := hbw3.trans (hb4.mono hbw3.size)
      go_wp2
      go_ret
      exact ⟨rfl, hbw4⟩

end Go.Proofs.YtmlcaamgkgdgoaaGreat
