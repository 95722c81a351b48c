/- The law FnTranspose. -/
import Derived.Test.YtdpkjhohklfieaaGreatTl
import Derived.Deep.RegionHeld3
set_option linter.unusedSimpArgs false
set_option linter.unusedVariables false
namespace Go.Proofs.YtdpkjhohklfieaaGreat
open Go.RowKit
set_option maxRecDepth 100000
set_option maxHeartbeats 1000000

attribute [local go_sem] undef

set_option maxHeartbeats 4000000 in
theorem ask_any (fn : Nat) (b off n c : Nat) (G : List Ve) (M : List Mv) (r : Mg) (w : World) (hcf : ∀ (args : Array Value) (W : World), Sem.run Tryz.prog (callFunc fn args) W = .ok (.enter fn args) W)
    (hn : n = M.length) (hargs : ArgsIn w b off G M) (hlen : n ≤ 1000) (h0 : M ≠ [])
    (hf : ∀ W g cap G', ArgsOut W g G' (M.map Mv.of) → Calls Tryz.prog fn #[.slice (some ⟨g, 0, none⟩) n cap] W fun e w' => ∃ v : Vg, e = .returned (.agg #[.int .i64 v.g.k, .float .f64 v.g.x, .string v.g.s, .slice v.A v.m v.c]) ∧ GIs w' (New W.heap.size w') v r ∧ Below W.heap.size W w') :
    Calls Tryz.prog 13 #[.func (.func fn) #[] #[], .slice (some ⟨b, off, none⟩) n c] w fun e w' => ∃ v : Vg, e = .returned (.agg #[.int .i64 v.g.k, .float .f64 v.g.x, .string v.g.s, .slice v.A v.m v.c]) ∧ GIs w' (New w.heap.size w') v r ∧ Below w.heap.size w w' := by
  have z0 := Zero4.new w 39
  have hbA : Below w.heap.size w (w.alloc (.cells #[.int .i64 0, .float .f64 0, .string ⟨#[]⟩, .slice none 0 0] 39)) := (Below.refl _ _).alloc (Nat.le_refl _) _
  have HA := Lib.hid (And.intro (hargs.below hbA) (And.intro hn h0))
  have HF := Lib.hid hf
  have HBA := Lib.hid hbA
  clear hargs hf hn h0 hbA
  go_enter Tryz.func13, Tryz.ntmps13
  go_wp2_with fail
  refine (all_any b off n c G M _ HA.out.2.1 HA.out.1 hlen HA.out.2.2).mono ?_
  rintro e w1 ⟨g, cap, G', rfl, ha1, hb1⟩
  have hbw1 := HBA.out.trans (hb1.mono HBA.out.size)
  have z1 := z0.below hb1
  have hlt0 : w.heap.size < w1.heap.size := by have := hb1.size; simp at this; omega
  have HA1 := Lib.hid ha1
  clear ha1
  go_wp2_with fail
  refine (HF.out w1 g cap G' HA1.out).mono ?_
  rintro e w2 ⟨v, rfl, hv, hb2⟩
  have hbw2 := hbw1.trans (hb2.mono hbw1.size)
  obtain ⟨q, q0, q1, q2, q3, qf⟩ := z1.below hb2
  have HV := Lib.hid (And.intro hv (And.intro hbw2 hlt0))
  clear hv hbw1 hbw2 hb1 hb2 z0 z1
  go_wp2
  exact bodyPost_ret (v := (.agg #[.int .i64 v.g.k, .float .f64 v.g.x, .string v.g.s, .slice v.A v.m v.c])) (by simp [results, Tryz.results13, go_sem, q, q0, q1, q2, q3, qf]) rfl ⟨v, rfl, KG.more (KG.keep HV.out.1 (((((Keep.refl _ _).set (by intro q hq; have h := hq.1; show q ≠ w.heap.size; omega) _).set (by intro q hq; have h := hq.1; show q ≠ w.heap.size; omega) _).set (by intro q hq; have h := hq.1; show q ≠ w.heap.size; omega) _).set (by intro q hq; have h := hq.1; show q ≠ w.heap.size; omega) _)) (by intro q hq; have h := hq.1; exact ⟨by omega, by simp only [size_setCell]; exact hq.2⟩), ((((HV.out.2.1.setCell (Nat.le_refl _) _).setCell (Nat.le_refl _) _).setCell (Nat.le_refl _) _).setCell (Nat.le_refl _) _)⟩

/-- The one argument of a function of the thin package. -/
theorem argsOut_one (w1 : World) (v : Vg) (r : Mg) (h : GIs w1 (· < w1.heap.size) v r) : ArgsOut (w1.alloc (.cells #[.int .i64 v.g.k, .float .f64 v.g.x, .string v.g.s, .slice v.A v.m v.c] 39)) w1.heap.size [v] [r] := by
  have hb : Below w1.heap.size w1 (w1.alloc (.cells #[.int .i64 v.g.k, .float .f64 v.g.x, .string v.g.s, .slice v.A v.m v.c] 39)) := (Below.refl _ _).alloc (Nat.le_refl _) _
  exact ⟨by simp, row_one w1 39 #[.int .i64 v.g.k, .float .f64 v.g.x, .string v.g.s, .slice v.A v.m v.c], Kind.all.one (K := KG) (KG.more (KG.keep h (Keep.below hb fun _ hq => hq)) fun q hq => Nat.lt_of_lt_of_le hq hb.size)⟩
theorem argsIn_one (w1 : World) (v : Ve) (y : Mv) (h : VIs w1 (· < w1.heap.size) v y) (ho : y.Ok) : ArgsIn (w1.alloc (.cells #[.int .i64 v.x.k, .int .i64 v.x.n, .int .i64 v.x.d, .string v.x.s, .slice v.A v.m v.c] 27)) w1.heap.size 0 [v] [y] := by
  have hb : Below w1.heap.size w1 (w1.alloc (.cells #[.int .i64 v.x.k, .int .i64 v.x.n, .int .i64 v.x.d, .string v.x.s, .slice v.A v.m v.c] 27)) := (Below.refl _ _).alloc (Nat.le_refl _) _
  exact ⟨by simp, row_one w1 27 #[.int .i64 v.x.k, .int .i64 v.x.n, .int .i64 v.x.d, .string v.x.s, .slice v.A v.m v.c], Kind.all.one (K := KV) (KV.more (KV.keep h (Keep.below hb fun _ hq => hq)) fun q hq => Nat.lt_of_lt_of_le hq hb.size), by intro m hm; simp at hm; subst hm; exact ho⟩

theorem drm_ok {rows : List (List Fv)} {C : Nat} (hC : ∀ r ∈ rows, r.length = C) (hx : ∀ r ∈ rows, ∀ x ∈ r, x.Cell ∧ x.k ≠ 6) : ∀ r ∈ drm (trg (ofm rows) C), r.length = rows.length ∧ ∀ g ∈ r, g.Ok := by
  intro r hr
  obtain ⟨r0, hr0, rfl⟩ := List.mem_map.1 hr
  obtain ⟨i, hi, rfl⟩ := List.mem_map.1 hr0
  rw [List.mem_range] at hi
  refine ⟨by rw [List.length_map, colG_len, ofm_len], fun g hg => ?_⟩
  obtain ⟨y, hy, rfl⟩ := List.mem_map.1 hg
  obtain ⟨j, hj⟩ := List.getElem?_of_mem hy
  have hjl := getElem?_lt hj
  rw [colG_len, ofm_len] at hjl
  obtain ⟨row, x, _, h2, _, h4, _, h6⟩ := cell_of_col hC hi hjl
  rw [hj] at h6
  injection h6 with h6
  subst h6
  exact Gl.dr_ok (Fv.of_ok x (hx row h2 x h4).1.1 (hx row h2 x h4).2)

theorem impl_trans2 (rows : List (List Fv)) (R C : Nat) (hR : rows.length = R) (hR0 : 0 < R) (hR1 : R ≤ 120) (hC0 : 0 < C) (hC1 : C ≤ 6) (hC : ∀ r ∈ rows, r.length = C) (hx : ∀ r ∈ rows, ∀ x ∈ r, x.Cell ∧ x.k ≠ 6) (W : World) (g cap : Nat) (G' : List Vg) (ha : ArgsOut W g G' [⟨⟨5, 0, ⟨#[]⟩⟩, drm (trg (ofm rows) C)⟩]) :
    Calls Tryz.prog 10 #[.slice (some ⟨g, 0, none⟩) 1 cap] W (MatI (trg (drm (trg (ofm rows) C)) R) W) := by
  have hmul : C * R ≤ 100000 := Nat.le_trans (Nat.mul_le_mul hC1 hR1) (by decide)
  have hd := drm_ok hC hx
  have hl : (drm (trg (ofm rows) C)).length = C := by rw [drm_len, trg_len]
  refine impl_TRANSPOSE g 1 cap G' [⟨⟨5, 0, ⟨#[]⟩⟩, drm (trg (ofm rows) C)⟩] (trg (drm (trg (ofm rows) C)) R) W rfl ha (by omega) (by simp) ?_ (by rw [trg_len]; omega) (by intro r hr; rw [trg_cols _ _ r hr, hl]; omega) ?_
  · intro m hm
    simp at hm
    subst hm
    exact ⟨fun hk => absurd rfl hk, by show (drm (trg (ofm rows) C)).length ≤ 1000; omega, fun r hr => ⟨by have := (hd r hr).1; omega, (hd r hr).2⟩⟩
  · intro W2 p LB hlo
    exact ff_trans_list ⟨⟨5, 0, ⟨#[]⟩⟩, drm (trg (ofm rows) C)⟩ C R rfl hl hC0 (by omega) hR0 (by omega) (fun r hr => by rw [(hd r hr).1, hR]) hmul W2 p LB hlo

/-- Where the law stands: the range's cells in its own block, and what lies behind. -/
theorem law_Transpose (A : Option Addr) (c : Nat) (X : List It) (cols : Int) (w : World) (hx : ItemsIn w A c X) (h1 : -9223372036854775808 ≤ cols) (h2 : cols ≤ 9223372036854775807) :
    Calls Tryz.prog 4 #[.slice A X.length c, .int .i64 cols] w fun e w' => e = .returned (.bool true) ∧ Below w.heap.size w w' := by
  obtain ⟨hsrc, hlc, hcc, hok⟩ := hx
  have HX := Lib.hid (And.intro hsrc (And.intro hok (And.intro h1 h2)))
  clear hsrc hok h1 h2
  go_enter Tryz.func4, Tryz.ntmps4
  go_wp2_with fail
  refine (fits1_any A c X w HX.out.1 (by omega)).mono ?_
  rintro e w1 ⟨b, rfl, hb, hb1⟩
  have HB := Lib.hid hb
  clear hb
  cases b
  · go_wp2
    go_ret
    exact ⟨rfl, hb1⟩
  · go_wp2_with fail
    refine (tableOf_any A c X cols w1 ((HX.out.1.below hb1 (Nat.le_refl _)).more hb1.size) (by omega) hlc hcc (fun x hx => ⟨HX.out.2.1 x hx, HB.out trivial x hx⟩) HX.out.2.2.1 HX.out.2.2.2).mono ?_
    rintro e w2 ⟨A', m, c', rows, rfl, hrs, hrect, hb2⟩
    obtain ⟨r, rs, rfl⟩ := List.exists_cons_of_ne_nil hrect.1
    have hv2 : VIs w2 (· < w2.heap.size) ⟨⟨5, 0, 0, ⟨#[]⟩⟩, A', m, c'⟩ (mat (r :: rs)) := ⟨rfl, .inr ⟨rfl, hrs.more fun q hq => hq.2⟩⟩
    obtain ⟨VB, hVB⟩ : ∃ VB, VB = w2.heap.size := ⟨_, rfl⟩
    have hbV : Below w2.heap.size w2 (w2.alloc (.cells #[.int .i64 5, .int .i64 0, .int .i64 0, .string ⟨#[]⟩, .slice A' m c'] 27)) := (Below.refl _ _).alloc (Nat.le_refl _) _
    have hv3 := KV.on hv2 hbV
    have hbw := hb1.trans (hb2.mono hb1.size)
    have hbw3 := hbw.trans (hbV.mono hbw.size)
    have hA3 := argsIn_one _ _ _ hv3 hrect.ok
    rw [World.size_alloc] at hA3
    have HR := Lib.hid (And.intro hrect (And.intro hA3 hbw3))
    have HV3 := Lib.hid hv3
    have hB2 : Blk (w2.alloc (.cells #[.int .i64 5, .int .i64 0, .int .i64 0, .string ⟨#[]⟩, .slice A' m c'] 27)) w2.heap.size 27 #[.int .i64 5, .int .i64 0, .int .i64 0, .string ⟨#[]⟩, .slice A' m c'] := Blk.new _ _ _
    have HBK := Lib.hid hB2
    clear hA3 hrs hrect hb1 hb2 hbw hbw3 hv2 hv3 hB2 hbV hVB VB
    go_wp2_with fail
    (with_reducible refine (agree_TRANSPOSE _ 0 1 m c' A' r rs _ HR.out.1 HR.out.2.1).mono ?_)
    rintro e w3 ⟨rfl, hb3⟩
    obtain ⟨VB, hVB⟩ : ∃ VB, VB = w2.heap.size := ⟨_, rfl⟩
    have hbv3 := ((Below.refl _ (w2.alloc (.cells #[.int .i64 5, .int .i64 0, .int .i64 0, .string ⟨#[]⟩, .slice A' m c'] 27))).alloc (Nat.le_refl _) (.cells #[.int .i64 5, .int .i64 0, .int .i64 0, .string ⟨#[]⟩, .slice A' m c'] 27)).trans (hb3.mono (by simp))
    have hbk := HBK.out.below hbv3 HBK.out.lt
    have hv3 := KV.on HV3.out hbv3
    have hbw3 := HR.out.2.2.trans (hbv3.mono HR.out.2.2.size)
    rw [← hVB] at hbk
    have k0 : w3.cell? ⟨VB, 0, none⟩ = some (.int .i64 5) := hbk.cell 0
    have k1 : w3.cell? ⟨VB, 1, none⟩ = some (.int .i64 0) := hbk.cell 1
    have k2 : w3.cell? ⟨VB, 2, none⟩ = some (.int .i64 0) := hbk.cell 2
    have k3 : w3.cell? ⟨VB, 3, none⟩ = some (.string ⟨#[]⟩) := hbk.cell 3
    have k4 : w3.cell? ⟨VB, 4, none⟩ = some (.slice A' m c') := hbk.cell 4
    have hWB3 : VB < w3.heap.size := hbk.lt
    have HV := Lib.hid (And.intro hv3 hbw3)
    have HRE := Lib.hid HR.out.1
    clear hb3 hbv3 hbk hv3 hbw3 HR HV3 HBK
    rw [← hVB]
    clear hVB
    clear w2
    have hfl : flatM (mat (r :: rs)) = (r :: rs).flatten := flatM_mat _
    have hdw : ∀ W, Below w3.heap.size w3 W → Calls Tryz.prog 11 #[(.agg #[.int .i64 5, .int .i64 0, .int .i64 0, .string ⟨#[]⟩, .slice A' m c'])] W fun e w' => e = .returned (.bool (doubt (r :: rs).flatten)) ∧ Below W.heap.size W w' := by
      intro W hW
      have := doubtful_any 2 W.heap.size 5 0 0 ⟨#[]⟩ A' m c' (flatM (mat (r :: rs))) W (leads_of 0 (KV.on HV.out.1 hW) HRE.out.ok) (Nat.le_refl _) (by rw [hfl]; have := HRE.out.total; omega)
      rw [hfl] at this
      exact this
    have HD := Lib.hid hdw
    clear hdw
    cases hdl : doubt (r :: rs).flatten
    · rw [hdl] at HD
      have HDL := Lib.hid hdl
      clear hdl hfl
      obtain ⟨C, hC1, hC6, hCr⟩ := HRE.out.2.2
      have hCl : ∀ x ∈ r :: rs, x.length = C := fun x hx => (hCr x hx).1
      have hcx : ∀ r' ∈ r :: rs, ∀ x ∈ r', x.Cell ∧ x.k ≠ 6 := fun r' hr x hx => ⟨HRE.out.cells x (List.mem_flatten.2 ⟨r', hr, hx⟩), no_doubt HDL.out r' hr x hx⟩
      have hR0 : 0 < (r :: rs).length := by simp
      have hasg : ∀ W g cap G', ArgsOut W g G' ([mat (r :: rs)].map Mv.of) → Calls Tryz.prog 10 #[.slice (some ⟨g, 0, none⟩) 1 cap] W fun e w' => ∃ v : Vg, e = .returned (.agg #[.int .i64 v.g.k, .float .f64 v.g.x, .string v.g.s, .slice v.A v.m v.c]) ∧ GIs w' (New W.heap.size w') v ⟨⟨5, 0, ⟨#[]⟩⟩, drm (trg (ofm (r :: rs)) C)⟩ ∧ Below W.heap.size W w' := by
        intro W g cap G' ha
        have hok : (mat (r :: rs)).of.Ok := of_mem_ok (M := [mat (r :: rs)]) (by intro m hm; simp at hm; subst hm; exact HRE.out.ok) (by intro m hm h5; simp at hm; subst hm; exact absurd rfl h5) (by rw [flatAll_one, flatM_mat]; exact HDL.out) _ (by simp)
        exact (impl_trans1 (r :: rs) (r :: rs).length C rfl hR0 HRE.out.2.1 (by omega) hC6 hCl hok W g cap G' ha).mono fun e w1 hp => hp.gis
      have hsec : ∀ W g cap G', ArgsOut W g G' [⟨⟨5, 0, ⟨#[]⟩⟩, drm (trg (ofm (r :: rs)) C)⟩] → Calls Tryz.prog 10 #[.slice (some ⟨g, 0, none⟩) 1 cap] W fun e w' => ∃ v : Vg, e = .returned (.agg #[.int .i64 v.g.k, .float .f64 v.g.x, .string v.g.s, .slice v.A v.m v.c]) ∧ GIs w' (New W.heap.size w') v ⟨⟨5, 0, ⟨#[]⟩⟩, drm (trg (drm (trg (ofm (r :: rs)) C)) (r :: rs).length)⟩ ∧ Below W.heap.size W w' := by
        intro W g cap G' ha
        exact (impl_trans2 (r :: rs) (r :: rs).length C rfl hR0 HRE.out.2.1 (by omega) hC6 hCl hcx W g cap G' ha).mono fun e w1 hp => hp.gis
      have hsame : ∀ (W : World) (v : Vg), Below w3.heap.size w3 W → GIs W (· < W.heap.size) v ⟨⟨5, 0, ⟨#[]⟩⟩, drm (trg (drm (trg (ofm (r :: rs)) C)) (r :: rs).length)⟩ → Calls Tryz.prog 12 #[(.agg #[.int .i64 v.g.k, .float .f64 v.g.x, .string v.g.s, .slice v.A v.m v.c]), (.agg #[.int .i64 5, .int .i64 0, .int .i64 0, .string ⟨#[]⟩, .slice A' m c'])] W fun e w' => e = .returned (.bool true) ∧ Below W.heap.size W w' := by
        intro W v hW hv
        exact same_of W v ⟨⟨5, 0, 0, ⟨#[]⟩⟩, A', m, c'⟩ _ (r :: rs) hv (KV.on HV.out.1 hW) (by have := HRE.out.2.1; omega) (fun r' hr => ⟨by have := hCl r' hr; omega, fun x hx => (hcx r' hr x hx).1.1⟩) (agr_trans2 hCl hcx)
      have HASG := Lib.hid hasg
      have HSEC := Lib.hid hsec
      have HSAME := Lib.hid hsame
      have hcf : ∀ (args : Array Value) (W : World), Sem.run Tryz.prog (callFunc 10 args) W = .ok (.enter 10 args) W := fun args W => by kernel_rfl
      have HCF := Lib.hid hcf
      clear hasg hsec hsame hcf hCl hcx hR0 hCr hC1 hC6
      go_wp2_with fail
      go_region_held3 (fun w' => w'.cell? ⟨VB, 0, none⟩ = some (.int .i64 5) ∧ w'.cell? ⟨VB, 1, none⟩ = some (.int .i64 0) ∧ w'.cell? ⟨VB, 2, none⟩ = some (.int .i64 0) ∧ w'.cell? ⟨VB, 3, none⟩ = some (.string ⟨#[]⟩) ∧ w'.cell? ⟨VB, 4, none⟩ = some (.slice A' m c'))
        (first | go_keep | exact ⟨k0, k1, k2, k3, k4⟩ | exact ⟨q0, q1, q2, q3, q4⟩ | exact ⟨p0, p1, p2, p3, p4⟩ | exact ⟨r0, r1, r2, r3, r4⟩ | exact ⟨s0, s1, s2, s3, s4⟩)
        (first
          | (go_at_call 11
             refine (HD.out _ ((Below.refl _ _).drew)).mono ?_
             rintro e w4 ⟨rfl, hb4⟩
             have hz4 := hb4.size
             have hW4 : VB < w4.heap.size := Nat.lt_of_lt_of_le hWB3 hz4
             have hb34 : Below w3.heap.size w3 w4 := ((Below.refl _ _).drew).trans hb4
             have HV4 := Lib.hid (And.intro (KV.on HV.out.1 hb34) hb34)
             clear hb34
             have q0 := (hb4.cell (p := ⟨VB, 0, none⟩) hWB3).trans k0
             have q1 := (hb4.cell (p := ⟨VB, 1, none⟩) hWB3).trans k1
             have q2 := (hb4.cell (p := ⟨VB, 2, none⟩) hWB3).trans k2
             have q3 := (hb4.cell (p := ⟨VB, 3, none⟩) hWB3).trans k3
             have q4 := (hb4.cell (p := ⟨VB, 4, none⟩) hWB3).trans k4)
          | (go_at_call 13
             refine (ask_any 10 w4.heap.size 0 1 1 [⟨⟨5, 0, 0, ⟨#[]⟩⟩, A', m, c'⟩] [mat (r :: rs)] ⟨⟨5, 0, ⟨#[]⟩⟩, drm (trg (ofm (r :: rs)) C)⟩ _ HCF.out rfl (argsIn_one w4 ⟨⟨5, 0, 0, ⟨#[]⟩⟩, A', m, c'⟩ (mat (r :: rs)) HV4.out.1 HRE.out.ok) (by omega) (by simp) HASG.out).mono ?_
             rintro e w5 ⟨v5, rfl, hv5, hb5⟩
             have hb45 : Below w4.heap.size w4 w5 := ((Below.refl _ _).alloc (Nat.le_refl _) _).trans (hb5.mono (by simp))
             have hz5 := hb45.size
             have hW5 : VB < w5.heap.size := Nat.lt_of_lt_of_le hW4 hz5
             have HV5 := Lib.hid (And.intro (show GIs w5 (· < w5.heap.size) v5 _ from KG.more hv5 fun k hk => hk.2) (HV4.out.2.trans (hb45.mono HV4.out.2.size)))
             clear hv5 hb5
             have p0 := (hb45.cell (p := ⟨VB, 0, none⟩) hW4).trans q0
             have p1 := (hb45.cell (p := ⟨VB, 1, none⟩) hW4).trans q1
             have p2 := (hb45.cell (p := ⟨VB, 2, none⟩) hW4).trans q2
             have p3 := (hb45.cell (p := ⟨VB, 3, none⟩) hW4).trans q3
             have p4 := (hb45.cell (p := ⟨VB, 4, none⟩) hW4).trans q4)
          | (go_at_call 10
             refine (HSEC.out _ w5.heap.size 1 [v5] (argsOut_one w5 v5 _ HV5.out.1)).mono ?_
             rintro e w6 ⟨v6, rfl, hv6, hb6⟩
             have hb56 : Below w5.heap.size w5 w6 := ((Below.refl _ _).alloc (Nat.le_refl _) _).trans (hb6.mono (by simp))
             have hz6 := hb56.size
             have hW6 : VB < w6.heap.size := Nat.lt_of_lt_of_le hW5 hz6
             have HV6 := Lib.hid (And.intro (show GIs w6 (· < w6.heap.size) v6 _ from KG.more hv6 fun k hk => hk.2) (HV5.out.2.trans (hb56.mono HV5.out.2.size)))
             clear hv6 hb6
             have r0 := (hb56.cell (p := ⟨VB, 0, none⟩) hW5).trans p0
             have r1 := (hb56.cell (p := ⟨VB, 1, none⟩) hW5).trans p1
             have r2 := (hb56.cell (p := ⟨VB, 2, none⟩) hW5).trans p2
             have r3 := (hb56.cell (p := ⟨VB, 3, none⟩) hW5).trans p3
             have r4 := (hb56.cell (p := ⟨VB, 4, none⟩) hW5).trans p4)
          | (go_at_call 12
             refine (HSAME.out w6 v6 HV6.out.2 HV6.out.1).mono ?_
             rintro e w7 ⟨rfl, hb7⟩
             have s0 := (hb7.cell (p := ⟨VB, 0, none⟩) hW6).trans r0
             have s1 := (hb7.cell (p := ⟨VB, 1, none⟩) hW6).trans r1
             have s2 := (hb7.cell (p := ⟨VB, 2, none⟩) hW6).trans r2
             have s3 := (hb7.cell (p := ⟨VB, 3, none⟩) hW6).trans r3
             have s4 := (hb7.cell (p := ⟨VB, 4, none⟩) hW6).trans r4))
      go_wp2
      go_ret
      exact ⟨rfl, (HV.out.2.trans (HV6.out.2.mono HV.out.2.size)).trans (hb7.mono (by have := HV.out.2.size; have := HV6.out.2.size; omega))⟩
    · rw [hdl] at HD
      clear hdl hfl
      go_wp2_with fail
      first
        | go_region_with (go_at_call 11; refine (HD.out _ ((Below.refl _ _).drew)).mono ?_; rintro e w4 ⟨rfl, hb4⟩)
        | fail
      all_goals go_wp2
      all_goals go_ret
      all_goals exact ⟨rfl, HV.out.2.trans (((Below.refl _ _).drew.trans hb4).mono HV.out.2.size)⟩

end Go.Proofs.YtdpkjhohklfieaaGreat
