/- TRANSPOSE: the frame of the reference, the doors; that both agree. -/
import Derived.Test.YtdpkjhohklfieaaGreatMt
set_option linter.unusedSimpArgs false
set_option linter.unusedVariables false
namespace Go.Proofs.YtdpkjhohklfieaaGreat
open Go.RowKit
set_option maxRecDepth 100000
set_option maxHeartbeats 1000000

theorem Fl.clean_idem (b : Nat) : Fl.clean (Fl.clean b) = Fl.clean b := by
  have h00 : (Ieee.double.order 0 0 == some .eq) = true := by decide +kernel
  unfold Fl.clean
  split <;> rfl
theorem Gl.dr_dr (g : Gl) : g.dr.dr = g.dr := by
  unfold Gl.dr
  split
  · simp [Fl.clean_idem]
  · split
    · simp
    · split
      · simp
      · split
        · simp
        · simp
theorem Gl.dr_ok {g : Gl} (h : g.Ok) : g.dr.Ok := by
  unfold Gl.dr
  rcases h with h | ⟨h, hx⟩ | h | ⟨h, b, hb⟩ | h
  · rw [h]; exact .inl rfl
  · rw [h]; exact .inr (.inl ⟨rfl, Fl.clean_num _ hx⟩)
  · rw [h]; exact .inr (.inr (.inl rfl))
  · rw [h]; exact .inr (.inr (.inr (.inl ⟨rfl, b, hb⟩)))
  · rw [h]; exact .inr (.inr (.inr (.inr rfl)))

def ofm (rows : List (List Fv)) : List (List Gl) := rows.map fun r => r.map Fv.of
theorem ofm_len (rows : List (List Fv)) : (ofm rows).length = rows.length := by unfold ofm; rw [List.length_map]
theorem ofm_cols {rows : List (List Fv)} {C : Nat} (h : ∀ r ∈ rows, r.length = C) : ∀ r ∈ ofm rows, r.length = C := by
  intro r hr
  obtain ⟨r0, h0, rfl⟩ := List.mem_map.1 hr
  rw [List.length_map]; exact h r0 h0
theorem trs_len (rows : List (List Fv)) (C : Nat) : (trs rows C).length = C := by unfold trs; rw [List.length_map, List.length_range]
theorem trg_cols (rows : List (List Gl)) (C : Nat) : ∀ r ∈ trg rows C, r.length = rows.length := by
  intro r hr
  obtain ⟨j, _, rfl⟩ := List.mem_map.1 hr
  exact colG_len rows j
theorem trg_get (rows : List (List Gl)) (C i : Nat) (h : i < C) : (trg rows C)[i]? = some (colG rows i) := by unfold trg; rw [List.getElem?_map, List.getElem?_range h]; rfl
theorem trs_get (rows : List (List Fv)) (C i : Nat) (h : i < C) : (trs rows C)[i]? = some (colOf rows i) := by unfold trs; rw [List.getElem?_map, List.getElem?_range h]; rfl
theorem colOf_get (rows : List (List Fv)) (j i : Nat) (r : List Fv) (x : Fv) (hr : rows[i]? = some r) (hx : r[j]? = some x) : (colOf rows j)[i]? = some x := by
  unfold colOf
  rw [List.getElem?_map, hr]
  show some (r.getD j _) = some x
  rw [List.getD_eq_getElem?_getD, hx]; rfl
theorem colOf_len (rows : List (List Fv)) (j : Nat) : (colOf rows j).length = rows.length := by unfold colOf; rw [List.length_map]
theorem getElem?_lt {α : Type} {l : List α} {i : Nat} {x : α} (h : l[i]? = some x) : i < l.length := (List.getElem?_eq_some_iff.1 h).1
/-- What a cell of the transposed matrix is. -/
theorem cell_of_col {rows : List (List Fv)} {C : Nat} (hC : ∀ r ∈ rows, r.length = C) {i j : Nat} (hi : i < C) (hj : j < rows.length) : ∃ row x, rows[j]? = some row ∧ row ∈ rows ∧ row[i]? = some x ∧ x ∈ row ∧ (colOf rows i)[j]? = some x ∧ (colG (ofm rows) i)[j]? = some x.of := by
  obtain ⟨row, hrow⟩ : ∃ row, rows[j]? = some row := ⟨_, List.getElem?_eq_getElem hj⟩
  have hm := List.mem_of_getElem? hrow
  obtain ⟨x, hx⟩ : ∃ x, row[i]? = some x := ⟨_, List.getElem?_eq_getElem (by rw [hC row hm]; exact hi)⟩
  exact ⟨row, x, hrow, hm, hx, List.mem_of_getElem? hx, colOf_get rows i j row x hrow hx, colG_get (ofm rows) i j (row.map Fv.of) x.of (by unfold ofm; rw [List.getElem?_map, hrow]; rfl) (by rw [List.getElem?_map, hx]; rfl)⟩
theorem trs_cells {rows : List (List Fv)} {C : Nat} (hC : ∀ r ∈ rows, r.length = C) : ∀ r ∈ trs rows C, r.length = rows.length ∧ ∀ x ∈ r, ∃ row ∈ rows, x ∈ row := by
  intro r hr
  obtain ⟨i, hi, rfl⟩ := List.mem_map.1 hr
  rw [List.mem_range] at hi
  refine ⟨colOf_len rows i, fun x hx => ?_⟩
  obtain ⟨j, hj⟩ := List.getElem?_of_mem hx
  have hjl := getElem?_lt hj
  rw [colOf_len] at hjl
  obtain ⟨row, y, _, h2, _, h4, h5, _⟩ := cell_of_col hC hi hjl
  rw [hj] at h5
  injection h5 with h5
  exact ⟨row, h2, by rw [h5]; exact h4⟩

theorem agr_trans {rows : List (List Fv)} {C : Nat} (hC : ∀ r ∈ rows, r.length = C) (hx : ∀ r ∈ rows, ∀ x ∈ r, x.Cell ∧ x.k ≠ 6) : AgrRows (drm (trg (ofm rows) C)) (trs rows C) := by
  refine ⟨by rw [drm_len, trg_len, trs_len], fun i rg rx hg hr => ?_⟩
  have hi : i < C := by have := getElem?_lt hr; rwa [trs_len] at this
  rw [trs_get _ _ _ hi] at hr
  injection hr with hr
  unfold drm at hg
  rw [List.getElem?_map, trg_get _ _ _ hi] at hg
  have hg' : (colG (ofm rows) i).map Gl.dr = rg := by simpa using hg
  subst hr hg'
  refine ⟨by rw [List.length_map, colG_len, ofm_len, colOf_len], fun j g x hgj hxj => ?_⟩
  have hj : j < rows.length := by have := getElem?_lt hxj; rwa [colOf_len] at this
  obtain ⟨row, y, _, h2, _, h4, h5, h6⟩ := cell_of_col hC hi hj
  rw [h5] at hxj
  injection hxj with hxj
  subst hxj
  rw [List.getElem?_map, h6] at hgj
  have : y.of.dr = g := by simpa using hgj
  subst this
  exact agr_of (hx row h2 y h4).1 (hx row h2 y h4).2
theorem agr_trans2 {rows : List (List Fv)} {C : Nat} (hC : ∀ r ∈ rows, r.length = C) (hx : ∀ r ∈ rows, ∀ x ∈ r, x.Cell ∧ x.k ≠ 6) : AgrRows (drm (trg (drm (trg (ofm rows) C)) rows.length)) rows := by
  refine ⟨by rw [drm_len, trg_len], fun i rg rx hg hr => ?_⟩
  have hi := getElem?_lt hr
  have hrm := List.mem_of_getElem? hr
  unfold drm at hg
  rw [List.getElem?_map, trg_get _ _ _ hi] at hg
  have hg' : (colG (drm (trg (ofm rows) C)) i).map Gl.dr = rg := by simpa [drm] using hg
  subst hg'
  refine ⟨by rw [List.length_map, colG_len, drm_len, trg_len, hC rx hrm], fun j g x hgj hxj => ?_⟩
  have hj : j < C := by have := getElem?_lt hxj; rwa [hC rx hrm] at this
  obtain ⟨row, y, h1, h2, h3, h4, h5, h6⟩ := cell_of_col hC hj hi
  rw [hr] at h1
  injection h1 with h1
  subst h1
  rw [hxj] at h3
  injection h3 with h3
  subst h3
  have hcol : (colG (drm (trg (ofm rows) C)) i)[j]? = some x.of.dr := colG_get _ i j ((colG (ofm rows) j).map Gl.dr) x.of.dr (by unfold drm; rw [List.getElem?_map, trg_get _ _ _ hj]; rfl) (by rw [List.getElem?_map, h6]; rfl)
  rw [List.getElem?_map, hcol] at hgj
  have : x.of.dr.dr = g := by simpa using hgj
  subst this
  rw [Gl.dr_dr]
  exact agr_of (hx rx h2 x h4).1 (hx rx h2 x h4).2

theorem no_doubt {rows : List (List Fv)} (hd : doubt rows.flatten = false) : ∀ r ∈ rows, ∀ x ∈ r, x.k ≠ 6 := by
  intro r hr x hx h6
  have : doubt rows.flatten = true := by
    unfold doubt
    rw [List.any_eq_true]
    exact ⟨x, List.mem_flatten.2 ⟨r, hr, hx⟩, by simp [h6]⟩
  rw [hd] at this; cases this

/-- TRANSPOSE of a range, called by a list. -/
theorem ff_trans_list (g : Mg) (R C : Nat) (h5 : g.g = ⟨5, 0, ⟨#[]⟩⟩) (hR : g.rows.length = R) (hR0 : 0 < R) (hR1 : R ≤ 1000) (hC0 : 0 < C) (hC1 : C ≤ 1000) (hC : ∀ r ∈ g.rows, r.length = C) (ht : R * C ≤ 100000) (W : World) (p : Addr) (LB : Nat) (hl : ListOut W LB [g]) :
    Calls Tryz.prog 36 #[.pointer (some p), .pointer (some ⟨LB, 0, none⟩)] W (MatPost (trg g.rows C) W) := by
  obtain ⟨E, A2, c2, P, Q, h1, h2, h3, h4⟩ := list_range hl h5
  have hhd : (g.rows.headD []).length = C := by
    cases hg : g.rows with
    | nil => rw [hg] at hR; simp at hR; omega
    | cons a tl => exact hC a (by rw [hg]; exact List.mem_cons_self ..)
  rw [hhd, hR] at h4
  exact ff_TRANSPOSE p LB E A2 g.rows.length c2 P Q R C g.rows W h1 h2 h3 h4 hR hR0 hR1 hC0 hC1 hC ht

theorem fitsNumbers_TRANSPOSE (A : Option Addr) (L : List Ve) (c : Nat) (w : World) (hL : Args w A L) :
    Calls Tryz.prog 60 #[.string (⟨#[84, 82, 65, 78, 83, 80, 79, 83, 69]⟩ : ByteArray), .slice A L.length c] w fun e w' => e = .returned (.tuple #[.bool false, .bool false]) ∧ Below w.heap.size w w' := by
  have HE := numeric_all A L c w hL
  go_enter Tryz.func60, Tryz.ntmps60
  go_wp2_with fail
  refine HE.mono ?_
  rintro e w1 ⟨r, rfl, hb1⟩
  go_wp2
  go_ret2
  exact ⟨rfl, hb1⟩

theorem fitsTexts_TRANSPOSE (A : Option Addr) (n c : Nat) (w : World) :
    Calls Tryz.prog 61 #[.string (⟨#[84, 82, 65, 78, 83, 80, 79, 83, 69]⟩ : ByteArray), .slice A n c] w fun e w' => e = .returned (.tuple #[.bool false, .bool false]) ∧ Below w.heap.size w w' := by
  go_enter Tryz.func61, Tryz.ntmps61
  go_wp2
  go_ret2
  exact ⟨rfl, (by (repeat' (first | with_reducible exact Below.refl _ _ | with_reducible refine Below.setCell ?_ ?_ _ | with_reducible refine Below.alloc ?_ ?_ _ | with_reducible refine Below.drew ?_ | with_reducible refine Below.trans ?_ (Below.mono (by assumption) ?_))); all_goals (first | omega | (simp [World.setCell]; done) | (simp [World.setCell]; omega)))⟩

theorem fitsChoices_TRANSPOSE (A : Option Addr) (n c : Nat) (w : World) :
    Calls Tryz.prog 62 #[.string (⟨#[84, 82, 65, 78, 83, 80, 79, 83, 69]⟩ : ByteArray), .slice A n c] w fun e w' => e = .returned (.tuple #[.bool false, .bool false]) ∧ Below w.heap.size w w' := by
  go_enter Tryz.func62, Tryz.ntmps62
  go_wp2
  go_ret2
  exact ⟨rfl, (by (repeat' (first | with_reducible exact Below.refl _ _ | with_reducible refine Below.setCell ?_ ?_ _ | with_reducible refine Below.alloc ?_ ?_ _ | with_reducible refine Below.drew ?_ | with_reducible refine Below.trans ?_ (Below.mono (by assumption) ?_))); all_goals (first | omega | (simp [World.setCell]; done) | (simp [World.setCell]; omega)))⟩

theorem others_TRANSPOSE (w : World) : Calls Tryz.prog 63 #[.string (⟨#[84, 82, 65, 78, 83, 80, 79, 83, 69]⟩ : ByteArray)] w fun e w' => e = .returned (.bool true) ∧ Below w.heap.size w w' := by
  go_enter Tryz.func63, Tryz.ntmps63
  go_wp2
  go_ret
  exact ⟨rfl, (by (repeat' (first | with_reducible exact Below.refl _ _ | with_reducible refine Below.setCell ?_ ?_ _ | with_reducible refine Below.alloc ?_ ?_ _ | with_reducible refine Below.drew ?_ | with_reducible refine Below.trans ?_ (Below.mono (by assumption) ?_))); all_goals (first | omega | (simp [World.setCell]; done) | (simp [World.setCell]; omega)))⟩

theorem fits_TRANSPOSE (b off n c : Nat) (G : List Ve) (M : List Mv) (w : World) (hn : n = M.length) (h : ArgsIn w b off G M) (ht : ∀ m ∈ M, m.x.k = 2 → m.x.s.size ≤ 2147483647) (hl : M.length ≤ 1000) : FitsIs (⟨#[84, 82, 65, 78, 83, 80, 79, 83, 69]⟩ : ByteArray) (some ⟨b, off, none⟩) n c true w := by
  intro W hW
  refine fits_others _ _ _ _ W (fun W3 h3 => ?_) (fun W3 _ => fitsTexts_TRANSPOSE _ _ _ W3) (fun W3 _ => fitsChoices_TRANSPOSE _ _ _ W3) (fun W3 => others_TRANSPOSE W3)
  have hA := args_of (h.below (hW.trans (h3.mono hW.size))) ht hl
  rw [hn, ← h.2.2.1.1]
  exact fitsNumbers_TRANSPOSE _ G c W3 hA

theorem here_TRANSPOSE (b off n c : Nat) (Pm : Mv → Prop) (w0 : World) (h : ∀ W, Below w0.heap.size w0 W → Calls Tryz.prog 80 #[.slice (some ⟨b, off, none⟩) n c] W (ManyPost Pm W)) :
    Here 39 (⟨#[84, 82, 65, 78, 83, 80, 79, 83, 69]⟩ : ByteArray) (some ⟨b, off, none⟩) n c (ManyP Pm) w0 := by
  intro w hbw
  have HH := Lib.hid h
  have Z0 := Lib.hid (Zero5.new w)
  have HLB := Lib.hid (show w.heap.size ≤ (w.alloc (.cells #[.int .i64 0, .int .i64 0, .int .i64 0, .string ⟨#[]⟩, .slice none 0 0] 27)).heap.size by simp)
  have HLT := Lib.hid (show w.heap.size < (w.alloc (.cells #[.int .i64 0, .int .i64 0, .int .i64 0, .string ⟨#[]⟩, .slice none 0 0] 27)).heap.size by simp)
  clear h
  go_enter Tryz.func39, Tryz.ntmps39
  go_wp2_with fail
  refine (HH.out _ (hbw.alloc hbw.size _)).mono ?_
  rintro e w1 ⟨v, y, hy, rfl, hv, hb1⟩
  have HV := Lib.hid (show ManyP Pm (w.alloc (.cells #[.int .i64 0, .int .i64 0, .int .i64 0, .string ⟨#[]⟩, .slice none 0 0] 27)).heap.size v w1 from ⟨y, hy, hv⟩)
  have HB1 := Lib.hid (((Below.refl w.heap.size w).alloc (Nat.le_refl _) (.cells #[.int .i64 0, .int .i64 0, .int .i64 0, .string ⟨#[]⟩, .slice none 0 0] 27)).trans (hb1.mono HLB.out))
  obtain ⟨q, q0, q1, q2, q3, q4, qf⟩ := Z0.out.below hb1
  clear hy hv hb1
  go_wp2
  exact bodyPost_ret (v := (.tuple #[(.agg #[.int .i64 v.x.k, .int .i64 v.x.n, .int .i64 v.x.d, .string v.x.s, .slice v.A v.m v.c]), .bool true])) (by simp [results, Tryz.results39, go_sem, q, q0, q1, q2, q3, q4, qf]) rfl ⟨v, rfl, ManyP.lasts Pm _ _ v w1 _ HV.out HLB.out ((((((Upon.refl _ _).setCell _ HLT.out _).setCell _ HLT.out _).setCell _ HLT.out _).setCell _ HLT.out _).setCell _ HLT.out _), below5 HB1.out (Nat.le_refl _)⟩

theorem door_TRANSPOSE (b n c : Nat) (G : List Vg) (M : List Mg) (rows : List (List Gl)) (w : World) (hn : n = M.length) (ha : ArgsOut w b G M) (hlen : n ≤ 1000) (hok : ∀ m ∈ M, m.Ok) (hl : rows.length ≤ 1000) (hC : ∀ r ∈ rows, r.length ≤ 1000)
    (hf : ∀ (W : World) (p : Addr) (LB : Nat), ListOut W LB M → Calls Tryz.prog 36 #[.pointer (some p), .pointer (some ⟨LB, 0, none⟩)] W (MatPost rows W)) :
    Calls Tryz.prog 23 #[.slice (some ⟨b, 0, none⟩) n c] w (MatI rows w) := by
  have z0 := Zero4.new w 49
  have hbA : Below w.heap.size w (w.alloc (.cells #[.int .i64 0, .float .f64 0, .string ⟨#[]⟩, .slice none 0 0] 49)) := (Below.refl _ _).alloc (Nat.le_refl _) _
  have HA := Lib.hid (And.intro ha hok)
  have HF := Lib.hid hf
  have HN := Lib.hid (And.intro hn (And.intro hl hC))
  have HBA := Lib.hid hbA
  clear ha hok hf hn hl hC hbA
  go_enter Tryz.func23, Tryz.ntmps23
  go_wp2_with fail
  refine (doorFuncs_any _).mono ?_
  rintro e w1 ⟨rfl, hb1⟩
  have hbw1 := HBA.out.trans (hb1.mono HBA.out.size)
  have z1 := z0.below hb1
  have hlt0 : w.heap.size < w1.heap.size := by have := hb1.size; simp at this; omega
  have ha1 : ArgsOut w1 b G M := ⟨Nat.lt_of_lt_of_le HA.out.1.1 hbw1.size, HA.out.1.2.1.below hbw1 HA.out.1.1, (HA.out.1.2.2.keep (Keep.below hbw1 fun _ h => h)).more fun q hq => Nat.lt_of_lt_of_le hq hbw1.size⟩
  have HA1 := Lib.hid ha1
  clear ha1
  go_wp2_with fail
  refine (innerList_any b n c G M w1 HN.out.1 HA1.out hlen HA.out.2).mono ?_
  rintro e w2 ⟨rfl, hlo, hb2⟩
  have hbw2 := hbw1.trans (hb2.mono hbw1.size)
  have z2 := z1.below hb2
  have HL := Lib.hid hlo
  have hlt2 := Nat.lt_of_lt_of_le hlt0 hb2.size
  clear hlo
  go_wp2_with fail
  refine (HF.out _ _ _ HL.out).mono ?_
  rintro e w3 ⟨g, cap, rfl, hr3, hb3⟩
  have hbw3 := hbw2.trans (hb3.mono hbw2.size)
  have z3 := z2.below hb3
  have hlt3 := Nat.lt_of_lt_of_le hlt2 hb3.size
  have HD := Lib.hid (doorArg_mat (some ⟨g, 0, none⟩) rows.length cap 0 0 rows w3 (hr3.more fun q hq => hq.2) HN.out.2.1 HN.out.2.2 (.pointer none) (.pointer none))
  clear hr3
  unfold FMx
  go_wp2_with fail
  refine HD.out.mono ?_
  rintro e w4 ⟨g4, cap4, rfl, hr4, hb4⟩
  have hbw := hbw3.trans (hb4.mono hbw3.size)
  obtain ⟨q, q0, q1, q2, q3, qf⟩ := z3.below hb4
  have HR4 := Lib.hid (And.intro hr4 hbw)
  clear z0 z1 z2 z3 hb1 hb2 hb3 hb4 hbw1 hbw2 hbw3 hr4 hbw hlt0 hlt2 HD
  go_wp2
  exact bodyPost_ret (v := (.agg #[.int .i64 5, .float .f64 0, .string ⟨#[]⟩, .slice (some ⟨g4, 0, none⟩) rows.length cap4])) (by simp [results, Tryz.results23, go_sem, q, q0, q1, q2, q3, qf]) rfl ⟨g4, cap4, rfl, ((HR4.out.1.keep (((((Keep.refl _ _).set (by intro q hq; have h := hq.1; show q ≠ w.heap.size; omega) _).set (by intro q hq; have h := hq.1; show q ≠ w.heap.size; omega) _).set (by intro q hq; have h := hq.1; show q ≠ w.heap.size; omega) _).set (by intro q hq; have h := hq.1; show q ≠ w.heap.size; omega) _)).more (by intro q hq; have h := hq.1; exact ⟨by omega, by simp only [size_setCell]; exact hq.2⟩)), ((((HR4.out.2.setCell (Nat.le_refl _) _).setCell (Nat.le_refl _) _).setCell (Nat.le_refl _) _).setCell (Nat.le_refl _) _)⟩

theorem impl_TRANSPOSE (b n c : Nat) (G : List Vg) (M : List Mg) (rows : List (List Gl)) (w : World) (hn : n = M.length) (ha : ArgsOut w b G M) (hlen : n ≤ 1000) (h0 : M ≠ []) (hok : ∀ m ∈ M, m.Ok) (hl : rows.length ≤ 1000) (hC : ∀ r ∈ rows, r.length ≤ 1000)
    (hf : ∀ (W : World) (p : Addr) (LB : Nat), ListOut W LB M → Calls Tryz.prog 36 #[.pointer (some p), .pointer (some ⟨LB, 0, none⟩)] W (MatPost rows W)) :
    Calls Tryz.prog 10 #[.slice (some ⟨b, 0, none⟩) n c] w (MatI rows w) := by
  have z0 := Zero4.new w 39
  have hbA : Below w.heap.size w (w.alloc (.cells #[.int .i64 0, .float .f64 0, .string ⟨#[]⟩, .slice none 0 0] 39)) := (Below.refl _ _).alloc (Nat.le_refl _) _
  have ha1 : ArgsOut (w.alloc (.cells #[.int .i64 0, .float .f64 0, .string ⟨#[]⟩, .slice none 0 0] 39)) b G M := ⟨Nat.lt_of_lt_of_le ha.1 hbA.size, ha.2.1.below hbA ha.1, (ha.2.2.keep (Keep.below hbA fun _ h => h)).more fun q hq => Nat.lt_of_lt_of_le hq hbA.size⟩
  have HA := Lib.hid (And.intro ha1 hok)
  have HF := Lib.hid hf
  have HN := Lib.hid (And.intro hn (And.intro h0 (And.intro hl hC)))
  have HBA := Lib.hid hbA
  clear ha hok hf hn ha1 h0 hbA hl hC
  go_enter Tryz.func10, Tryz.ntmps10
  go_wp2_with fail
  refine (in_any b n c G M _ HN.out.1 HA.out.1 hlen HN.out.2.1 (fun m hm => ⟨(HA.out.2 m hm).2.1, fun r hr => ((HA.out.2 m hm).2.2 r hr).1⟩)).mono ?_
  rintro e w1 ⟨g, cap, G', rfl, ha2, hb1⟩
  have hbw1 := HBA.out.trans (hb1.mono HBA.out.size)
  have z1 := z0.below hb1
  have hlt0 : w.heap.size < w1.heap.size := by have := hb1.size; simp at this; omega
  have HA2 := Lib.hid ha2
  clear ha2
  go_wp2_with fail
  refine (door_TRANSPOSE g n cap G' M rows _ HN.out.1 HA2.out hlen HA.out.2 HN.out.2.2.1 HN.out.2.2.2 HF.out).mono ?_
  rintro e w2 ⟨g2, cap2, rfl, hr2, hb2⟩
  have hbw2 := hbw1.trans (hb2.mono hbw1.size)
  have z2 := z1.below hb2
  have hlt2 := Nat.lt_of_lt_of_le hlt0 hb2.size
  have HD := Lib.hid (out_mat (some ⟨g2, 0, none⟩) rows.length cap2 (drm rows) w2 (by rw [drs_drm]; exact hr2.more fun q hq => hq.2) HN.out.2.2.1 (by intro r hr; obtain ⟨r0, hr0, rfl⟩ := List.mem_map.1 hr; rw [List.length_map]; exact HN.out.2.2.2 r0 hr0))
  clear hr2
  go_wp2_with fail
  refine HD.out.mono ?_
  rintro e w3 ⟨g3, cap3, rfl, hr3, hb3⟩
  have hbw := hbw2.trans (hb3.mono hbw2.size)
  obtain ⟨q, q0, q1, q2, q3, qf⟩ := z2.below hb3
  rw [drs_drm] at hr3
  have HR3 := Lib.hid (And.intro hr3 hbw)
  clear z0 z1 z2 hb1 hb2 hb3 hbw1 hbw2 hr3 hbw hlt0 HD
  go_wp2
  exact bodyPost_ret (v := (.agg #[.int .i64 5, .float .f64 0, .string ⟨#[]⟩, .slice (some ⟨g3, 0, none⟩) rows.length cap3])) (by simp [results, Tryz.results10, go_sem, q, q0, q1, q2, q3, qf]) rfl ⟨g3, cap3, rfl, ((HR3.out.1.keep (((((Keep.refl _ _).set (by intro q hq; have h := hq.1; show q ≠ w.heap.size; omega) _).set (by intro q hq; have h := hq.1; show q ≠ w.heap.size; omega) _).set (by intro q hq; have h := hq.1; show q ≠ w.heap.size; omega) _).set (by intro q hq; have h := hq.1; show q ≠ w.heap.size; omega) _)).more (by intro q hq; have h := hq.1; exact ⟨by omega, by simp only [size_setCell]; exact hq.2⟩)), ((((HR3.out.2.setCell (Nat.le_refl _) _).setCell (Nat.le_refl _) _).setCell (Nat.le_refl _) _).setCell (Nat.le_refl _) _)⟩

theorem impl_trans1 (rows : List (List Fv)) (R C : Nat) (hR : rows.length = R) (hR0 : 0 < R) (hR1 : R ≤ 120) (hC0 : 0 < C) (hC1 : C ≤ 6) (hC : ∀ r ∈ rows, r.length = C) (hok : (mat rows).of.Ok) (W : World) (g cap : Nat) (G' : List Vg) (ha : ArgsOut W g G' [(mat rows).of]) :
    Calls Tryz.prog 10 #[.slice (some ⟨g, 0, none⟩) 1 cap] W (MatI (trg (ofm rows) C) W) := by
  have hmul : R * C ≤ 100000 := Nat.le_trans (Nat.mul_le_mul hR1 hC1) (by decide)
  refine impl_TRANSPOSE g 1 cap G' [(mat rows).of] (trg (ofm rows) C) W rfl ha (by omega) (by simp) (by intro m hm; simp at hm; subst hm; exact hok) (by rw [trg_len]; omega) (by intro r hr; rw [trg_cols _ _ r hr, ofm_len]; omega) ?_
  intro W2 p LB hl
  exact ff_trans_list (mat rows).of R C rfl (by show (ofm rows).length = R; rw [ofm_len, hR]) hR0 (by omega) hC0 (by omega) (ofm_cols hC) hmul W2 p LB hl

theorem agree_TRANSPOSE (b off c m c1 : Nat) (A : Option Addr) (r : List Fv) (rs : List (List Fv)) (w : World) (h : Rect (r :: rs)) (ha : ArgsIn w b off [⟨⟨5, 0, 0, ⟨#[]⟩⟩, A, m, c1⟩] [mat (r :: rs)]) :
    Calls Tryz.prog 5 #[.func (.func 10) #[] #[], .string (⟨#[84, 82, 65, 78, 83, 80, 79, 83, 69]⟩ : ByteArray), .slice (some ⟨b, off, none⟩) 1 c] w fun e w' => e = .returned (.bool true) ∧ Below w.heap.size w w' := by
  have hfl : flatAll [mat (r :: rs)] = (r :: rs).flatten := by rw [flatAll_one, flatM_mat]
  have hlen : (r :: rs).length ≤ 120 := h.2.1
  have htot := h.total
  have hcell : ∀ r' ∈ r :: rs, ∀ x ∈ r', x.Cell := fun r' hr x hx => h.cells x (List.mem_flatten.2 ⟨r', hr, hx⟩)
  obtain ⟨C, hC1, hC6, hCr⟩ := h.2.2
  have hCl : ∀ x ∈ r :: rs, x.length = C := fun x hx => (hCr x hx).1
  have hm : m = (r :: rs).length := by
    obtain ⟨_, ⟨hk, _⟩ | ⟨_, hh⟩⟩ := ha.2.2.1.2 0 _ _ rfl rfl
    · exact absurd rfl hk
    · have h2 : m = ((r :: rs).map fvs).length := hh.2.1
      rw [h2]; exact List.length_map _
  have hR0 : 0 < (r :: rs).length := by simp
  have hXok : ∀ r' ∈ trs (r :: rs) C, r'.length ≤ 1000 ∧ ∀ x ∈ r', x.Ok := by
    intro r' hr'
    obtain ⟨h1, h2⟩ := trs_cells hCl r' hr'
    refine ⟨by omega, fun x hx => ?_⟩
    obtain ⟨row, hrow, hxr⟩ := h2 x hx
    exact (hcell row hrow x hxr).1
  refine agrees_args 10 (⟨#[84, 82, 65, 78, 83, 80, 79, 83, 69]⟩ : ByteArray) b off 1 c [⟨⟨5, 0, 0, ⟨#[]⟩⟩, A, m, c1⟩] [mat (r :: rs)] (fun y => y = mat (trs (r :: rs) C)) (fun g => g = ⟨⟨5, 0, ⟨#[]⟩⟩, drm (trg (ofm (r :: rs)) C)⟩) w (fun args W => by kernel_rfl) rfl ha (by omega) (by simp) (by rw [hfl]; omega) ?_ ?_ ?_ ?_
  · rintro y rfl
    refine ⟨⟨fun hk => absurd rfl hk, by show (trs (r :: rs) C).length ≤ 1000; rw [trs_len]; omega, hXok⟩, ?_⟩
    rw [flatM_mat]
    refine Nat.le_trans (flatten_le _ 120 fun r' hr' => ?_) ?_
    · have := (trs_cells hCl r' hr').1; omega
    · rw [trs_len]; exact Nat.le_trans (Nat.mul_le_mul_right 120 hC6) (by decide)
  · intro W hW
    have hd := call_over (⟨#[84, 82, 65, 78, 83, 80, 79, 83, 69]⟩ : ByteArray) (some ⟨b, off, none⟩) 1 c (ManyP fun y => y = mat (trs (r :: rs) C)) (ManyP.lasts _) W (by
      intro W2 hW2
      have hW' := hW.trans (hW2.mono hW.size)
      refine over_Stat _ _ _ _ _ (ManyP.lasts _) W2 (fits_TRANSPOSE b off 1 c [⟨⟨5, 0, 0, ⟨#[]⟩⟩, A, m, c1⟩] [mat (r :: rs)] W2 rfl (ha.below hW') (by intro m hm; simp at hm; subst hm; intro h2; cases h2) (by simp)) (here_TRANSPOSE b off 1 c _ W2 ?_)
      intro W3 hW3
      refine (transpose_any b off c m c1 A r rs (r :: rs).length C W3 (ha.below (hW'.trans (hW3.mono hW'.size))) hm rfl (by omega) hCl (by omega) (by omega)).mono ?_
      rintro e w' ⟨g, cap, rfl, hr, hb⟩
      exact ⟨⟨⟨5, 0, 0, ⟨#[]⟩⟩, some ⟨g, 0, none⟩, C, cap⟩, mat (trs (r :: rs) C), rfl, rfl, ⟨rfl, .inr ⟨rfl, hr⟩⟩, hb⟩)
    exact hd.mono fun e w1 h => h.many
  · intro hd W g cap G' hao
    refine (impl_trans1 (r :: rs) (r :: rs).length C rfl hR0 hlen (by omega) hC6 hCl (of_mem_ok (M := [mat (r :: rs)]) ha.2.2.2 (rows_none ha.2.2.1) hd _ (by simp)) W g cap G' hao).mono ?_
    intro e w1 hp
    obtain ⟨v, rfl, hg, hb⟩ := hp.gis
    exact ⟨v, _, rfl, rfl, hg, hb⟩
  · intro hd W v u g mm hg hmm hdm hv hu
    subst hg hmm
    rw [hfl] at hd
    exact same_of W v u _ _ hv hu (by rw [trs_len]; omega) hXok (agr_trans hCl fun r' hr' x hx => ⟨hcell r' hr' x hx, no_doubt hd r' hr' x hx⟩)

end Go.Proofs.YtdpkjhohklfieaaGreat
