/- MDETERM; the law FnMdeterm. -/
import Derived.Test.YtmlcaamgkgdgoaaGreatGd
import Derived.Test.YtmlcaamgkgdgoaaGreatDm
import Derived.Test.YtmlcaamgkgdgoaaGreatSh
import Derived.Test.YtmlcaamgkgdgoaaGreatDf
set_option linter.unusedSimpArgs false
set_option linter.unusedVariables false
namespace Go.Proofs.YtmlcaamgkgdgoaaGreat
open Go.RowKit
set_option maxRecDepth 100000
set_option maxHeartbeats 1000000

def ErrI (w : World) (e : Ending) (w' : World) : Prop := e = .returned (.agg #[.int .i64 4, .float .f64 0, .string (⟨#[35, 86, 65, 76, 85, 69, 33]⟩ : ByteArray), .slice none 0 0]) ∧ Below w.heap.size w w'

theorem fitsNumbers_MDETERM (A : Option Addr) (L : List Ve) (c : Nat) (w : World) (hL : Args w A L) :
    Calls Tryz.prog 92 #[.string (⟨#[77, 68, 69, 84, 69, 82, 77]⟩ : ByteArray), .slice A L.length c] w fun e w' => e = .returned (.tuple #[.bool false, .bool false]) ∧ Below w.heap.size w w' := by
  have HE := numeric_all A L c w hL
  go_enter Tryz.func92, Tryz.ntmps92
  go_wp2_with fail
  refine HE.mono ?_
  rintro e w1 ⟨r, rfl, hb1⟩
  go_wp2
  go_ret2
  exact ⟨rfl, hb1⟩

theorem fitsTexts_MDETERM (A : Option Addr) (n c : Nat) (w : World) :
    Calls Tryz.prog 93 #[.string (⟨#[77, 68, 69, 84, 69, 82, 77]⟩ : ByteArray), .slice A n c] w fun e w' => e = .returned (.tuple #[.bool false, .bool false]) ∧ Below w.heap.size w w' := by
  go_enter Tryz.func93, Tryz.ntmps93
  go_wp2
  go_ret2
  exact ⟨rfl, (by (repeat' (first | with_reducible exact Below.refl _ _ | with_reducible refine Below.setCell ?_ ?_ _ | with_reducible refine Below.alloc ?_ ?_ _ | with_reducible refine Below.drew ?_ | with_reducible refine Below.trans ?_ (Below.mono (by assumption) ?_))); all_goals (first | omega | (simp [World.setCell]; done) | (simp [World.setCell]; omega)))⟩

theorem fitsChoices_MDETERM (A : Option Addr) (n c : Nat) (w : World) :
    Calls Tryz.prog 94 #[.string (⟨#[77, 68, 69, 84, 69, 82, 77]⟩ : ByteArray), .slice A n c] w fun e w' => e = .returned (.tuple #[.bool false, .bool false]) ∧ Below w.heap.size w w' := by
  go_enter Tryz.func94, Tryz.ntmps94
  go_wp2
  go_ret2
  exact ⟨rfl, (by (repeat' (first | with_reducible exact Below.refl _ _ | with_reducible refine Below.setCell ?_ ?_ _ | with_reducible refine Below.alloc ?_ ?_ _ | with_reducible refine Below.drew ?_ | with_reducible refine Below.trans ?_ (Below.mono (by assumption) ?_))); all_goals (first | omega | (simp [World.setCell]; done) | (simp [World.setCell]; omega)))⟩

theorem others_MDETERM (w : World) : Calls Tryz.prog 95 #[.string (⟨#[77, 68, 69, 84, 69, 82, 77]⟩ : ByteArray)] w fun e w' => e = .returned (.bool true) ∧ Below w.heap.size w w' := by
  go_enter Tryz.func95, Tryz.ntmps95
  go_wp2
  go_ret
  exact ⟨rfl, (by (repeat' (first | with_reducible exact Below.refl _ _ | with_reducible refine Below.setCell ?_ ?_ _ | with_reducible refine Below.alloc ?_ ?_ _ | with_reducible refine Below.drew ?_ | with_reducible refine Below.trans ?_ (Below.mono (by assumption) ?_))); all_goals (first | omega | (simp [World.setCell]; done) | (simp [World.setCell]; omega)))⟩


theorem fits_MDETERM (b off n c : Nat) (G : List Ve) (M : List Mv) (w : World) (hn : n = M.length) (h : ArgsIn w b off G M) (ht : ∀ m ∈ M, m.x.k = 2 → m.x.s.size ≤ 2147483647) (hl : M.length ≤ 1000) : FitsIs (⟨#[77, 68, 69, 84, 69, 82, 77]⟩ : ByteArray) (some ⟨b, off, none⟩) n c true w := by
  intro W hW
  refine fits_others _ _ _ _ W (fun W3 h3 => ?_) (fun W3 _ => fitsTexts_MDETERM _ _ _ W3) (fun W3 _ => fitsChoices_MDETERM _ _ _ W3) (fun W3 => others_MDETERM W3)
  have hA := args_of (h.below (hW.trans (h3.mono hW.size))) ht hl
  rw [hn, ← h.2.2.1.1]
  exact fitsNumbers_MDETERM _ G c W3 hA


theorem here_MDETERM (b off n c : Nat) (Pf : Fv → Prop) (fn : Nat) (w0 : World) (h : ∀ W, Below w0.heap.size w0 W → Calls Tryz.prog 115 #[.slice (some ⟨b, off, none⟩) n c] W fun e w' => ∃ y, Pf y ∧ e = .returned (.agg #[.int .i64 y.k, .int .i64 y.n, .int .i64 y.d, .string y.s, .slice none 0 0]) ∧ Below W.heap.size W w') :
    Here 67 (⟨#[77, 68, 69, 84, 69, 82, 77]⟩ : ByteArray) (some ⟨b, off, none⟩) n c (FlatP Pf) w0 := by
  intro w hbw
  have HH := Lib.hid h
  have z0 := Zero5.new w
  clear h
  go_enter Tryz.func67, Tryz.ntmps67
  go_wp2_with fail
  refine (HH.out _ (hbw.alloc hbw.size _)).mono ?_
  rintro e w1 ⟨y, hy, rfl, hb1⟩
  have HY := Lib.hid hy
  obtain ⟨q, q0, q1, q2, q3, q4, qf⟩ := z0.below hb1
  clear z0 hy
  go_wp2
  exact bodyPost_ret (v := (.tuple #[(.agg #[.int .i64 y.k, .int .i64 y.n, .int .i64 y.d, .string y.s, .slice none 0 0]), .bool true])) (by simp [results, Tryz.results67, go_sem, q, q0, q1, q2, q3, q4, qf]) rfl ⟨⟨y, none, 0, 0⟩, rfl, ⟨y, HY.out, rfl⟩, (by (repeat' (first | with_reducible exact Below.refl _ _ | with_reducible refine Below.setCell ?_ ?_ _ | with_reducible refine Below.alloc ?_ ?_ _ | with_reducible refine Below.drew ?_ | with_reducible refine Below.trans ?_ (Below.mono (by assumption) ?_))); all_goals (first | omega | (simp [World.setCell]; done) | (simp [World.setCell]; omega)))⟩


theorem door_MDETERM (b n c : Nat) (G : List Vg) (M : List Mg) (w : World) (hn : n = M.length) (ha : ArgsOut w b G M) (hlen : n ≤ 1000) (hok : ∀ m ∈ M, m.Ok)
    (hf : ∀ (W : World) (p : Addr) (LB : Nat), ListOut W LB M → Calls Tryz.prog 60 #[.pointer (some p), .pointer (some ⟨LB, 0, none⟩)] W (ErrF W)) :
    Calls Tryz.prog 42 #[.slice (some ⟨b, 0, none⟩) n c] w (ErrI w) := by
  have z0 := Zero4.new w 59
  have hbA : Below w.heap.size w (w.alloc (.cells #[.int .i64 0, .float .f64 0, .string ⟨#[]⟩, .slice none 0 0] 59)) := (Below.refl _ _).alloc (Nat.le_refl _) _
  have HA := Lib.hid (And.intro ha hok)
  have HF := Lib.hid hf
  have HN := Lib.hid hn
  clear ha hok hf hn
  go_enter Tryz.func42, Tryz.ntmps42
  go_wp2_with fail
  refine (doorFuncs_any _).mono ?_
  rintro e w1 ⟨rfl, hb1⟩
  have hbw1 := hbA.trans (hb1.mono (by simp))
  have z1 := z0.below hb1
  have ha1 : ArgsOut w1 b G M := ⟨Nat.lt_of_lt_of_le HA.out.1.1 hbw1.size, HA.out.1.2.1.below hbw1 HA.out.1.1, (HA.out.1.2.2.keep (Keep.below hbw1 fun _ h => h)).more fun q hq => Nat.lt_of_lt_of_le hq hbw1.size⟩
  have HA1 := Lib.hid ha1
  clear ha1
  go_wp2_with fail
  refine (innerList_any b n c G M w1 HN.out HA1.out hlen HA.out.2).mono ?_
  rintro e w2 ⟨rfl, hl, hb2⟩
  have hbw2 := hbw1.trans (hb2.mono hbw1.size)
  have z2 := z1.below hb2
  have HL := Lib.hid hl
  clear hl
  go_wp2_with fail
  refine (HF.out _ _ _ HL.out).mono ?_
  rintro e w3 ⟨rfl, hb3⟩
  have hbw3 := hbw2.trans (hb3.mono hbw2.size)
  have z3 := z2.below hb3
  go_wp2_with fail
  refine (doorArg_err _ _ _).mono ?_
  rintro e w4 ⟨rfl, hb4⟩
  have hbw := hbw3.trans (hb4.mono hbw3.size)
  obtain ⟨q, q0, q1, q2, q3, qf⟩ := z3.below hb4
  clear z0 z1 z2 z3 hb1 hb2 hb3 hb4 hbw1 hbw2 hbw3 hbA
  go_wp2
  exact bodyPost_ret (v := (.agg #[.int .i64 4, .float .f64 0, .string (⟨#[35, 86, 65, 76, 85, 69, 33]⟩ : ByteArray), .slice none 0 0])) (by simp [results, Tryz.results42, go_sem, q, q0, q1, q2, q3, qf]) rfl ⟨rfl, (by (repeat' (first | with_reducible exact Below.refl _ _ | with_reducible refine Below.setCell ?_ ?_ _ | with_reducible refine Below.alloc ?_ ?_ _ | with_reducible refine Below.drew ?_ | with_reducible refine Below.trans ?_ (Below.mono (by assumption) ?_))); all_goals (first | omega | (simp [World.setCell]; done) | (simp [World.setCell]; omega)))⟩

theorem impl_MDETERM (b n c : Nat) (G : List Vg) (M : List Mg) (w : World) (hn : n = M.length) (ha : ArgsOut w b G M) (hlen : n ≤ 1000) (h0 : M ≠ []) (hok : ∀ m ∈ M, m.Ok)
    (hf : ∀ (W : World) (p : Addr) (LB : Nat), ListOut W LB M → Calls Tryz.prog 60 #[.pointer (some p), .pointer (some ⟨LB, 0, none⟩)] W (ErrF W)) :
    Calls Tryz.prog 20 #[.slice (some ⟨b, 0, none⟩) n c] w (ErrI w) := by
  have z0 := Zero4.new w 47
  have hbA : Below w.heap.size w (w.alloc (.cells #[.int .i64 0, .float .f64 0, .string ⟨#[]⟩, .slice none 0 0] 47)) := (Below.refl _ _).alloc (Nat.le_refl _) _
  have ha1 : ArgsOut (w.alloc (.cells #[.int .i64 0, .float .f64 0, .string ⟨#[]⟩, .slice none 0 0] 47)) b G M := ⟨Nat.lt_of_lt_of_le ha.1 hbA.size, ha.2.1.below hbA ha.1, (ha.2.2.keep (Keep.below hbA fun _ h => h)).more fun q hq => Nat.lt_of_lt_of_le hq hbA.size⟩
  have HA := Lib.hid (And.intro ha1 hok)
  have HF := Lib.hid hf
  have HN := Lib.hid (And.intro hn h0)
  clear ha hok hf hn ha1 h0
  go_enter Tryz.func20, Tryz.ntmps20
  go_wp2_with fail
  refine (in_any b n c G M _ HN.out.1 HA.out.1 hlen HN.out.2 (fun m hm => ⟨(HA.out.2 m hm).2.1, fun r hr => ((HA.out.2 m hm).2.2 r hr).1⟩)).mono ?_
  rintro e w1 ⟨g, cap, G', rfl, ha2, hb1⟩
  have hbw1 := hbA.trans (hb1.mono (by simp))
  have z1 := z0.below hb1
  have HA2 := Lib.hid ha2
  clear ha2
  go_wp2_with fail
  refine (door_MDETERM g n cap G' M _ HN.out.1 HA2.out hlen HA.out.2 HF.out).mono ?_
  rintro e w2 ⟨rfl, hb2⟩
  have hbw2 := hbw1.trans (hb2.mono hbw1.size)
  have z2 := z1.below hb2
  go_wp2_with fail
  refine (out_flat 4 0 (⟨#[35, 86, 65, 76, 85, 69, 33]⟩ : ByteArray) _).mono ?_
  rintro e w3 ⟨rfl, hb3⟩
  have hbw := hbw2.trans (hb3.mono hbw2.size)
  obtain ⟨q, q0, q1, q2, q3, qf⟩ := z2.below hb3
  clear z0 z1 z2 hb1 hb2 hb3 hbw1 hbw2 hbA
  go_wp2
  exact bodyPost_ret (v := (.agg #[.int .i64 4, .float .f64 0, .string (⟨#[35, 86, 65, 76, 85, 69, 33]⟩ : ByteArray), .slice none 0 0])) (by simp [results, Tryz.results20, go_sem, q, q0, q1, q2, q3, qf]) rfl ⟨rfl, (by (repeat' (first | with_reducible exact Below.refl _ _ | with_reducible refine Below.setCell ?_ ?_ _ | with_reducible refine Below.alloc ?_ ?_ _ | with_reducible refine Below.drew ?_ | with_reducible refine Below.trans ?_ (Below.mono (by assumption) ?_))); all_goals (first | omega | (simp [World.setCell]; done) | (simp [World.setCell]; omega)))⟩


def DetW (R C : Nat) (xs : List Fv) (y : Fv) : Prop := y = doubtFv ∨ (y = ⟨4, 0, 0, (⟨#[35, 86, 65, 76, 85, 69, 33]⟩ : ByteArray)⟩ ∧ kindsB [1, 2] xs = true ∧ (R ≠ C ∨ kindsB [1] xs = false))

set_option maxHeartbeats 8000000 in
theorem mdeterm_any (b off c m c1 : Nat) (A : Option Addr) (r : List Fv) (rs : List (List Fv)) (R C : Nat) (w : World) (h : ArgsIn w b off [⟨⟨5, 0, 0, ⟨#[]⟩⟩, A, m, c1⟩] [mat (r :: rs)]) (hm : m = R) (hr : r.length = C) (hR : R ≤ 1000) (hC : C ≤ 1000) (htot : (r :: rs).flatten.length ≤ 100000) :
    Calls Tryz.prog 115 #[.slice (some ⟨b, off, none⟩) 1 c] w fun e w' => ∃ y, DetW R C (r :: rs).flatten y ∧ e = .returned (.agg #[.int .i64 y.k, .int .i64 y.n, .int .i64 y.d, .string y.s, .slice none 0 0]) ∧ Below w.heap.size w w' := by
  have Z0 := Lib.hid (Zero5.new w)
  have hbA : Below w.heap.size w (w.alloc (.cells #[.int .i64 0, .int .i64 0, .int .i64 0, .string ⟨#[]⟩, .slice none 0 0] 28)) := (Below.refl _ _).alloc (Nat.le_refl _) _
  have ha := h.below hbA
  obtain ⟨hblt, c0, c1', c2, c3, c4, hv, hok⟩ := one_range ha
  have hrw : RowsIs 5 (w.alloc (.cells #[.int .i64 0, .int .i64 0, .int .i64 0, .string ⟨#[]⟩, .slice none 0 0] 28)) (· < (w.alloc (.cells #[.int .i64 0, .int .i64 0, .int .i64 0, .string ⟨#[]⟩, .slice none 0 0] 28)).heap.size) A m ((r :: rs).map fvs) := by
    obtain ⟨_, ⟨hk, _⟩ | ⟨_, hh⟩⟩ := hv
    · exact absurd rfl hk
    · exact hh
  have HS := Lib.hid (shape_any A m c1 r rs _ hrw)
  rw [hr] at HS
  subst hm
  have HA := Lib.hid (And.intro ha (And.intro htot hbA))
  have hfm : flatM (mat (r :: rs)) = (r :: rs).flatten := flatM_mat _
  have HFM := Lib.hid hfm
  clear hrw ha h hr hv hok hbA htot hfm
  go_enter Tryz.func115, Tryz.ntmps115
  go_wp2_with fail
  refine HS.out.mono ?_
  rintro e w1 ⟨rfl, hb1⟩
  have hbw1 := HA.out.2.2.trans (hb1.mono HA.out.2.2.size)
  have Z1 := Lib.hid (Z0.out.below hb1)
  have ha1 := HA.out.1.below hb1
  have HA1 := Lib.hid (And.intro ha1 hbw1)
  clear c0 c1' c2 c3 c4 hblt HS
  obtain ⟨hblt, c0, c1', c2, c3, c4, hv, hok⟩ := one_range ha1
  clear ha1 hb1
  by_cases h5 : 5 < m
  · clear hv hok c0 c1' c2 c3 c4
    go_wp2_with fail
    refine (doubt_any _).mono ?_
    rintro e w9 ⟨rfl, hb9⟩
    have hbw9 := hbw1.trans (hb9.mono hbw1.size)
    obtain ⟨q, q0, q1, q2, q3, q4, qf⟩ := Z1.out.below hb9
    clear hb9
    go_wp2
    exact bodyPost_ret (v := (.agg #[.int .i64 6, .int .i64 0, .int .i64 0, .string ⟨#[]⟩, .slice none 0 0])) (by simp [results, Tryz.results115, go_sem, q, q0, q1, q2, q3, q4, qf]) rfl ⟨doubtFv, .inl rfl, rfl, below5 hbw9 (Nat.le_refl _)⟩
  · by_cases h5c : 5 < C
    · clear hv hok c0 c1' c2 c3 c4
      go_wp2_with fail
      refine (doubt_any _).mono ?_
      rintro e w9 ⟨rfl, hb9⟩
      have hbw9 := hbw1.trans (hb9.mono hbw1.size)
      obtain ⟨q, q0, q1, q2, q3, q4, qf⟩ := Z1.out.below hb9
      clear hb9
      go_wp2
      exact bodyPost_ret (v := (.agg #[.int .i64 6, .int .i64 0, .int .i64 0, .string ⟨#[]⟩, .slice none 0 0])) (by simp [results, Tryz.results115, go_sem, q, q0, q1, q2, q3, q4, qf]) rfl ⟨doubtFv, .inl rfl, rfl, below5 hbw9 (Nat.le_refl _)⟩
    · have hbB : Below w1.heap.size w1 (w1.alloc (.cells #[.int .i64 1, .int .i64 2] 3)) := (Below.refl _ _).alloc (Nat.le_refl _) _
      have hkin := kinds_mat ⟨⟨5, 0, 0, ⟨#[]⟩⟩, A, m, c1⟩ (mat (r :: rs)) (some ⟨w1.heap.size, 0, none⟩) 2 [1, 2] (w1.alloc (.cells #[.int .i64 1, .int .i64 2] 3)) (KV.on hv hbB) hok rfl (by rw [HFM.out]; exact HA.out.2.1) (by simp) (src_ints _ 3 [1, 2] #[.int .i64 1, .int .i64 2] _ _ rfl rfl (by simp))
      have HK := Lib.hid hkin
      clear hkin hv hok
      go_wp2_with fail
      refine HK.out.mono ?_
      rintro e w2 ⟨rfl, hb2⟩
      have hb12 := hbB.trans (hb2.mono hbB.size)
      have hbw2 := hbw1.trans (hb12.mono hbw1.size)
      have Z2 := Lib.hid (Z1.out.below hb12)
      have ha2 := HA1.out.1.below hb12
      clear c0 c1' c2 c3 c4 hblt HK hbB hb2
      obtain ⟨hblt, c0, c1', c2, c3, c4, hv, hok⟩ := one_range ha2
      clear ha2 hb12
      cases hk12 : kindsB [1, 2] (flatM (mat (r :: rs)))
      · clear hk12
        clear hv hok c0 c1' c2 c3 c4
        go_wp2_with fail
        refine (doubt_any _).mono ?_
        rintro e w9 ⟨rfl, hb9⟩
        have hbw9 := hbw2.trans (hb9.mono hbw2.size)
        obtain ⟨q, q0, q1, q2, q3, q4, qf⟩ := Z2.out.below hb9
        clear hb9
        go_wp2
        exact bodyPost_ret (v := (.agg #[.int .i64 6, .int .i64 0, .int .i64 0, .string ⟨#[]⟩, .slice none 0 0])) (by simp [results, Tryz.results115, go_sem, q, q0, q1, q2, q3, q4, qf]) rfl ⟨doubtFv, .inl rfl, rfl, below5 hbw9 (Nat.le_refl _)⟩
      · rw [HFM.out] at hk12
        have HK12 := Lib.hid hk12
        clear hk12
        by_cases hmc : m = C
        · subst hmc
          have hbC : Below w2.heap.size w2 (w2.alloc (.cells #[.int .i64 1] 3)) := (Below.refl _ _).alloc (Nat.le_refl _) _
          have hkin := kinds_mat ⟨⟨5, 0, 0, ⟨#[]⟩⟩, A, m, c1⟩ (mat (r :: rs)) (some ⟨w2.heap.size, 0, none⟩) 1 [1] (w2.alloc (.cells #[.int .i64 1] 3)) (KV.on hv hbC) hok rfl (by rw [HFM.out]; exact HA.out.2.1) (by simp) (src_ints _ 3 [1] #[.int .i64 1] _ _ rfl rfl (by simp))
          have HK := Lib.hid hkin
          clear hkin hv hok
          go_wp2_with fail
          refine HK.out.mono ?_
          rintro e w3 ⟨rfl, hb3⟩
          have hb23 := hbC.trans (hb3.mono hbC.size)
          have hbw3 := hbw2.trans (hb23.mono hbw2.size)
          have Z3 := Lib.hid (Z2.out.below hb23)
          clear c0 c1' c2 c3 c4 hblt HK hbC hb3 hb23
          cases hk1 : kindsB [1] (flatM (mat (r :: rs)))
          · rw [HFM.out] at hk1
            have HK1 := Lib.hid hk1
            clear hk1
            go_wp2_with fail
            refine (err_any _ _).mono ?_
            rintro e w9 ⟨rfl, hb9⟩
            have hbw9 := hbw3.trans (hb9.mono hbw3.size)
            obtain ⟨q, q0, q1, q2, q3, q4, qf⟩ := Z3.out.below hb9
            clear hb9
            go_wp2
            exact bodyPost_ret (v := (.agg #[.int .i64 4, .int .i64 0, .int .i64 0, .string (⟨#[35, 86, 65, 76, 85, 69, 33]⟩ : ByteArray), .slice none 0 0])) (by simp [results, Tryz.results115, go_sem, q, q0, q1, q2, q3, q4, qf]) rfl ⟨⟨4, 0, 0, (⟨#[35, 86, 65, 76, 85, 69, 33]⟩ : ByteArray)⟩, .inr ⟨rfl, HK12.out, .inr HK1.out⟩, rfl, below5 hbw9 (Nat.le_refl _)⟩
          · clear hk1
            go_wp2_with fail
            refine (doubt_any _).mono ?_
            rintro e w9 ⟨rfl, hb9⟩
            have hbw9 := hbw3.trans (hb9.mono hbw3.size)
            obtain ⟨q, q0, q1, q2, q3, q4, qf⟩ := Z3.out.below hb9
            clear hb9
            go_wp2
            exact bodyPost_ret (v := (.agg #[.int .i64 6, .int .i64 0, .int .i64 0, .string ⟨#[]⟩, .slice none 0 0])) (by simp [results, Tryz.results115, go_sem, q, q0, q1, q2, q3, q4, qf]) rfl ⟨doubtFv, .inl rfl, rfl, below5 hbw9 (Nat.le_refl _)⟩
        · have hmc' : ((m : Int) == (C : Int)) = false := by rw [beq_eq_false_iff_ne]; omega
          clear hv hok c0 c1' c2 c3 c4
          go_wp2_with fail
          refine (err_any _ _).mono ?_
          rintro e w9 ⟨rfl, hb9⟩
          have hbw9 := hbw2.trans (hb9.mono hbw2.size)
          obtain ⟨q, q0, q1, q2, q3, q4, qf⟩ := Z2.out.below hb9
          clear hb9
          go_wp2
          exact bodyPost_ret (v := (.agg #[.int .i64 4, .int .i64 0, .int .i64 0, .string (⟨#[35, 86, 65, 76, 85, 69, 33]⟩ : ByteArray), .slice none 0 0])) (by simp [results, Tryz.results115, go_sem, q, q0, q1, q2, q3, q4, qf]) rfl ⟨⟨4, 0, 0, (⟨#[35, 86, 65, 76, 85, 69, 33]⟩ : ByteArray)⟩, .inr ⟨rfl, HK12.out, .inl hmc⟩, rfl, below5 hbw9 (Nat.le_refl _)⟩

theorem DetW.ok {R C : Nat} {xs : List Fv} {y : Fv} (h : DetW R C xs y) : y.Ok := by
  rcases h with rfl | ⟨rfl, _⟩
  · exact .inl (.inr (.inr (.inr rfl)))
  · exact .inl (.inr (.inr (.inl rfl)))

theorem ty_one {x : Fv} (h : x.k = 1 ∨ x.k = 2) : (tyOf x.of == 1) = (x.k == 1) := by
  have hk : x.of.k = x.k := rfl
  unfold tyOf
  rw [hk]
  rcases h with h | h <;> rw [h] <;> rfl
theorem kinds_ty (xs : List Fv) (h : kindsB [1, 2] xs = true) : (xs.map Fv.of).all (fun g => tyOf g == 1) = kindsB [1] xs := by
  unfold kindsB at h ⊢
  rw [List.all_map]
  induction xs with
  | nil => rfl
  | cons x r ih =>
    rw [List.all_cons, Bool.and_eq_true] at h
    rw [List.all_cons, List.all_cons, ih h.2]
    have hx : x.k = 1 ∨ x.k = 2 := by simpa using h.1
    have := ty_one hx
    simp only [Function.comp, this]
    simp

theorem agree_MDETERM (b off c m c1 : Nat) (A : Option Addr) (r : List Fv) (rs : List (List Fv)) (w : World) (h : Rect (r :: rs)) (ha : ArgsIn w b off [⟨⟨5, 0, 0, ⟨#[]⟩⟩, A, m, c1⟩] [mat (r :: rs)]) :
    Calls Tryz.prog 12 #[.func (.func 20) #[] #[], .string (⟨#[77, 68, 69, 84, 69, 82, 77]⟩ : ByteArray), .slice (some ⟨b, off, none⟩) 1 c] w fun e w' => e = .returned (.bool true) ∧ Below w.heap.size w w' := by
  have hfl : flatAll [mat (r :: rs)] = (r :: rs).flatten := by rw [flatAll_one, flatM_mat]
  have hlen : (r :: rs).length ≤ 120 := h.2.1
  have htot := h.total
  obtain ⟨C, hC1, hC6, hCr⟩ := h.2.2
  have hrC : r.length = C := (hCr r (List.mem_cons_self ..)).1
  have hm : m = (r :: rs).length := by
    obtain ⟨_, ⟨hk, _⟩ | ⟨_, hh⟩⟩ := ha.2.2.1.2 0 _ _ rfl rfl
    · exact absurd rfl hk
    · have h2 : m = ((r :: rs).map fvs).length := hh.2.1
      rw [h2]; exact List.length_map _
  obtain ⟨R, hR⟩ : ∃ R, R = (r :: rs).length := ⟨_, rfl⟩
  rw [← hR] at hlen hm
  have hR0 : 0 < R := by rw [hR]; simp
  refine agrees_det 20 (⟨#[77, 68, 69, 84, 69, 82, 77]⟩ : ByteArray) b off 1 c [⟨⟨5, 0, 0, ⟨#[]⟩⟩, A, m, c1⟩] [mat (r :: rs)] (fun m => m.rows = [] ∧ DetW R C (r :: rs).flatten m.x) (fun g => g = ⟨⟨4, 0, (⟨#[35, 86, 65, 76, 85, 69, 33]⟩ : ByteArray)⟩, []⟩) w (fun args W => by kernel_rfl) rfl ha (by omega) (by simp) (by rw [hfl]; omega) ?_ ?_ ?_ ?_
  · rintro ⟨x, rows⟩ ⟨hr, hp⟩
    simp only at hr hp
    subst hr
    have ho := hp.ok
    exact ⟨⟨fun _ => ho, by simp, by simp⟩, by unfold flatM; rw [if_neg ho.ne5]; simp⟩
  · intro W hW
    have hd := call_over (⟨#[77, 68, 69, 84, 69, 82, 77]⟩ : ByteArray) (some ⟨b, off, none⟩) 1 c (FlatP (DetW R C (r :: rs).flatten)) (FlatP.lasts _) W (by
      intro W2 hW2
      have hW' := hW.trans (hW2.mono hW.size)
      refine over_Stat _ _ _ _ _ (FlatP.lasts _) W2 (fits_MDETERM b off 1 c [⟨⟨5, 0, 0, ⟨#[]⟩⟩, A, m, c1⟩] [mat (r :: rs)] W2 rfl (ha.below hW') (by intro m hm; simp at hm; subst hm; intro h2; cases h2) (by simp)) (here_MDETERM b off 1 c _ 0 W2 ?_)
      intro W3 hW3
      exact mdeterm_any b off c m c1 A r rs R C W3 (ha.below (hW'.trans (hW3.mono hW'.size))) hm hrC (by omega) (by omega) (by omega))
    refine (hd.mono fun e w1 h => h.flatP).mono ?_
    rintro e w1 ⟨y, hy, rfl, hb⟩
    exact ⟨⟨y, none, 0, 0⟩, ⟨y, []⟩, ⟨rfl, hy⟩, rfl, ⟨rfl, .inl ⟨hy.ok.ne5, rfl, rfl, rfl, rfl⟩⟩, hb⟩
  · rintro hd ⟨mm, ⟨hmr, hmd⟩, hdm⟩ W g cap G' hao
    have hbad : kindsB [1, 2] (r :: rs).flatten = true ∧ (R ≠ C ∨ kindsB [1] (r :: rs).flatten = false) := by
      rcases hmd with h6 | ⟨_, h⟩
      · exfalso
        have : doubt (flatM mm) = true := by unfold flatM doubt; rw [h6]; rfl
        rw [hdm] at this; cases this
      · exact h
    refine (impl_MDETERM g 1 cap G' [(mat (r :: rs)).of] W rfl hao (by omega) (by simp) (of_mem_ok (M := [mat (r :: rs)]) ha.2.2.2 (rows_none ha.2.2.1) hd) (fun W p LB hl => ?_)).mono ?_
    · obtain ⟨E, A2, c2, P, Q, h1, h2, _, _⟩ := list_range hl rfl
      have e2 : (mat (r :: rs)).of.rows.length = R := by show ((r :: rs).map fun r => r.map Fv.of).length = R; rw [List.length_map, hR]
      rw [e2] at h1 h2
      refine ff_MDETERM p LB E A2 R c2 P Q W h1 fun W2 hW2 => ?_
      have h3 : RowsIs 10 W2 (· < W2.heap.size) A2 R (((r.map Fv.of) :: (rs.map fun r => r.map Fv.of)).map inns) := (h2.keep (Keep.below hW2 fun _ hk => hk)).more fun q hq => Nat.lt_of_lt_of_le hq hW2.size
      by_cases hRC : R = C
      · refine nm_eq A2 R c2 P Q ((r :: rs).map fun x : List Fv => x.map Fv.of) W2 (by exact h3) (by omega) ?_ ?_
        · intro r' hr'
          obtain ⟨r0, hr0, rfl⟩ := List.mem_map.1 hr'
          rw [List.length_map, hRC]; exact (hCr r0 hr0).1
        · rw [← List.map_flatten, kinds_ty _ hbad.1]
          exact hbad.2.resolve_left fun h => h hRC
      · exact nm_ne A2 R c2 P Q C _ _ W2 h3 (by omega) (by rw [List.length_map]; exact hrC) (by omega) hRC
    · rintro e w1 ⟨rfl, hb⟩
      exact ⟨⟨⟨4, 0, (⟨#[35, 86, 65, 76, 85, 69, 33]⟩ : ByteArray)⟩, none, 0, 0⟩, ⟨⟨4, 0, (⟨#[35, 86, 65, 76, 85, 69, 33]⟩ : ByteArray)⟩, []⟩, rfl, rfl, ⟨rfl, .inl ⟨by simp, rfl, rfl, rfl, rfl⟩⟩, hb⟩
  · intro hd W v u g mm hg hmm hdm hv hu
    obtain ⟨x, rows⟩ := mm
    obtain ⟨hm1, hm2⟩ := hmm
    simp only at hm1 hm2
    subst hg hm1
    have ho := hm2.ok
    obtain ⟨vg, vA, vm, vc⟩ := v
    obtain ⟨ux, uA, um, uc⟩ := u
    obtain ⟨h1, ⟨_, _, h2, h3, h4⟩ | ⟨h2, _⟩⟩ := hv
    · obtain ⟨k1, ⟨_, _, k2, k3, k4⟩ | ⟨k2, _⟩⟩ := hu
      · simp only at h1 h2 h3 h4 k1 k2 k3 k4
        subst h1 h2 h3 h4 k1 k2 k3 k4
        rcases hm2 with h6 | ⟨h4, _⟩
        · exfalso
          have : doubt (flatM ⟨ux, []⟩) = true := by unfold flatM doubt; rw [h6]; rfl
          rw [hdm] at this; cases this
        · subst h4
          have := same_flat 4 0 ⟨4, 0, 0, (⟨#[35, 86, 65, 76, 85, 69, 33]⟩ : ByteArray)⟩ ho rfl (by rw [Fv.of_eqE _ _ _ _ (by simp)]; decide +kernel) W
          exact this
      · simp only at k2; rw [k2] at ho; exact absurd rfl ho.ne5
    · cases h2

theorem law_Mdeterm (A : Option Addr) (c : Nat) (X : List It) (cols : Int) (w : World) (hx : ItemsIn w A c X) (h1 : -9223372036854775808 ≤ cols) (h2 : cols ≤ 9223372036854775807) :
    Calls Tryz.prog 7 #[.slice A X.length c, .int .i64 cols] w fun e w' => e = .returned (.bool true) ∧ Below w.heap.size w w' := by
  obtain ⟨hsrc, hlc, hcc, hok⟩ := hx
  have HX := Lib.hid (And.intro hsrc (And.intro hok (And.intro h1 h2)))
  clear hsrc hok h1 h2
  go_enter Tryz.func7, Tryz.ntmps7
  go_wp2_with fail
  refine (fits1_any A c X w HX.out.1 (by omega)).mono ?_
  rintro e w1 ⟨b, rfl, hb, hb1⟩
  have HB := Lib.hid hb
  clear hb
  cases b
  · go_wp2
    go_ret
    exact ⟨rfl, hb1⟩
  · go_wp2_with fail
    refine (tableOf_any A c X cols w1 ((HX.out.1.below hb1 (Nat.le_refl _)).more hb1.size) (by omega) hlc hcc (fun x hx => ⟨HX.out.2.1 x hx, HB.out trivial x hx⟩) HX.out.2.2.1 HX.out.2.2.2).mono ?_
    rintro e w2 ⟨A', m, c', rows, rfl, hrs, hrect, hb2⟩
    obtain ⟨r, rs, rfl⟩ := List.exists_cons_of_ne_nil hrect.1
    have HR := Lib.hid (And.intro hrect (range_args c' hrs hrect))
    have hbw := hb1.trans (hb2.mono hb1.size)
    clear hrs hrect hb2
    go_wp2_with fail
    refine (agree_MDETERM _ 0 1 m c' A' r rs _ HR.out.1 HR.out.2).mono ?_
    rintro e w3 ⟨rfl, hb3⟩
    have hbw3 : Below w.heap.size w w3 := (hbw.alloc hbw.size _).trans (hb3.mono (by simp; have := hbw.size; omega))
    go_wp2
    go_ret
    exact ⟨rfl, hbw3⟩

end Go.Proofs.YtmlcaamgkgdgoaaGreat
