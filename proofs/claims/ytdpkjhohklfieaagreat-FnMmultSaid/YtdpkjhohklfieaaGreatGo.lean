/- of, all: values with rows of the reference as those of the program. -/
import Derived.Test.YtdpkjhohklfieaaGreatGl
import Derived.Deep.AppendLies
import Derived.Deep.RegionLaw
import Derived.Deep.RegionWith
set_option linter.unusedSimpArgs false
set_option linter.unusedVariables false
namespace Go.Proofs.YtdpkjhohklfieaaGreat
open Go.RowKit
set_option maxRecDepth 100000

theorem infoIs : ((Tryz.prog.info? 41)).map (fun i => (i.zero, i.size, i.bytes)) = some (some (.slice none 0 0), 1, 24) := by kernel_rfl

/-- Rows of single values of the reference, in memory. -/
theorem ofs_len (r : List Fv) : (ofs r).length = r.length := by simp [ofs]

theorem all_row (b off c : Nat) (r : List Fv) (w : World) (hok : ∀ x ∈ r, x.Ok) (hrow : Row w b off 5 (fvs r)) (hb : b < w.heap.size) (hlen : r.length ≤ 1000) (hn : r ≠ []) :
    Calls Tryz.prog 16 #[.slice (some ⟨b, off, none⟩) r.length c] w fun e w' => ∃ g cap, e = .returned (.slice (some ⟨g, 0, none⟩) r.length cap) ∧ RowIs 4 w' (New w.heap.size w') (.slice (some ⟨g, 0, none⟩) r.length cap) (ofs r) ∧ Below w.heap.size w w' := by
  refine (all_flat b off c r w hok hrow hb hlen).mono ?_
  rintro e w1 ⟨v, rfl, hv, hb1⟩
  have hr := hv.rowIs (by simpa [ofs] using hn)
  obtain ⟨h0, g, off', cap, hv', h1, h2⟩ := hr
  obtain ⟨g2, cap2, hv2, _⟩ := hv.row h0
  rw [hv2] at hv'
  injection hv' with e1 e2 e3
  injection e1 with e1
  injection e1 with e1 e1'
  subst e1 e1' e3
  rw [ofs_len] at hv2
  exact ⟨g2, cap2, by rw [hv2], ⟨h0, g2, 0, cap2, by rw [ofs_len], h1, h2⟩, hb1⟩

theorem row_of {w w' : World} {base : Nat} {e : TypeId} {y : Value} {s : Nat} {G : List Value} {M : List (List (List Value))} (h : (KRow s).Many w base e 1 y G M) (hb : Below w.heap.size w.drew w') :
    w'.ownsRow base e 1 y G.length (G.map (KRow s).cells).flatten := by
  have := (h.below (w' := w') (Below.trans (Below.drew (Below.refl _ w)) hb)).1.1
  rwa [List.length_map] at this
theorem owns_of {w2 : World} {base : Nat} {e : TypeId} {y' x : Value} {s : Nat} {G : List Value} (h : w2.ownsRow base e 1 y' (G.length + 1) ((G.map (KRow s).cells).flatten ++ [x])) (hc : ∀ c ∈ G.map (KRow s).cells, c.length = 1) :
    Owns w2 base e 1 y' (G.map (KRow s).cells ++ [(KRow s).cells x]) := by
  refine ⟨?_, ?_⟩
  · simpa [KRow] using h
  · intro c hc'
    rcases List.mem_append.1 hc' with h' | h'
    · exact hc c h'
    · simp [KRow] at h'; subst h'; rfl
theorem one_slice (A : Option Addr) (n c : Nat) : ∀ u ∈ [Value.slice A n c], u.oneCell' = true := by
  intro u hu; simp at hu; subst hu; rfl
theorem far_of {w : World} {e : TypeId} {y : Value} {s b : Nat} {G : List Value} {M : List (List (List Value))} (h : (KRow s).Many w (b + 1) e 1 y G M) : some b ≠ y.ownBlock := by
  rcases h.1.block_lt with hn | ⟨q, hq, hl, _⟩
  · rw [hn]; simp
  · rw [hq]; intro he; injection he with he; omega

/-- What lies around the loop of 'of'. -/
def OfAt (w wr : World) (A : Option Addr) (n c : Nat) (y : Value) : Prop :=
  Blk wr w.heap.size 27 #[.int .i64 5, .int .i64 0, .int .i64 0, .string ⟨#[]⟩, .slice A n c] ∧ Blk wr (w.heap.size + 1) 39 #[.int .i64 0, .float .f64 0, .string ⟨#[]⟩, .slice none 0 0] ∧
    Blk wr (w.heap.size + 1 + 1) 39 #[.int .i64 5, .float .f64 0, .string ⟨#[]⟩, y] ∧ Below w.heap.size w wr

theorem OfAt.step {w wr w2 : World} {A : Option Addr} {n c : Nat} {y : Value} (h : OfAt w wr A n c y) (hb : Below (w.heap.size + 1 + 1 + 1) wr w2) (y' : Value) : OfAt w (w2.setCell ⟨w.heap.size + 1 + 1, 3, none⟩ y') A n c y' := by
  obtain ⟨h0, h1, h2, h3⟩ := h
  refine ⟨(h0.below hb (by omega)).far (p := ⟨w.heap.size + 1 + 1, 3, none⟩) (by show w.heap.size ≠ w.heap.size + 1 + 1; omega) y', (h1.below hb (by omega)).far (p := ⟨w.heap.size + 1 + 1, 3, none⟩) (by show w.heap.size + 1 ≠ w.heap.size + 1 + 1; omega) y', ?_, ?_⟩
  · have := (h2.below hb (by omega)).put 3 y'
    simpa using this
  · exact (h3.trans (hb.mono (by omega))).setCell (by show w.heap.size ≤ w.heap.size + 1 + 1; omega) _

set_option maxHeartbeats 4000000 in
theorem of_mat (A : Option Addr) (n c : Nat) (rows : List (List Fv)) (w : World) (hr : RowsIs 5 w (· < w.heap.size) A n (rows.map fvs)) (hl : rows.length ≤ 1000) (hok : ∀ r ∈ rows, r.length ≤ 1000 ∧ ∀ x ∈ r, x.Ok) :
    Calls Tryz.prog 25 #[(.agg #[.int .i64 5, .int .i64 0, .int .i64 0, .string ⟨#[]⟩, .slice A n c])] w fun e w' => ∃ A' c', e = .returned (.agg #[.int .i64 5, .float .f64 0, .string ⟨#[]⟩, .slice A' n c']) ∧ RowsIs 4 w' (New w.heap.size w') A' n (rows.map ofs) ∧ Below w.heap.size w w' := by
  obtain ⟨hne, hn, b, off, rfl, hb, hrow⟩ := hr
  rw [List.length_map] at hn
  have hnl : n ≤ 1000 := by omega
  have HN := Lib.hid hn
  have HR := Lib.hid hrow
  have HO := Lib.hid hok
  have HE := Lib.hid hne
  clear hn hrow hl hok hne
  go_enter Tryz.func25, Tryz.ntmps25
  go_wp2_with fail
  go_loopw [4] (fun i wr => ∃ (k : Nat) (y : Value) (G : List Value), k ≤ n ∧ i = .int .i64 k ∧ OfAt w wr (some ⟨b, off, none⟩) n c y ∧ (KRow 4).Many wr (w.heap.size + 1 + 1 + 1) 41 1 y G ((rows.take k).map ofs)) (fun i _ => n - (intOf i).toNat)
  case atStart =>
    refine ⟨0, _, [], Nat.zero_le _, rfl, ⟨?_, ?_, ?_, ?_⟩, Kind.Many.nil _ _ _ _⟩
    · exact ((Blk.new w _ _).alloc _).alloc _
    · have := (Blk.new (w.alloc (.cells #[.int .i64 5, .int .i64 0, .int .i64 0, .string ⟨#[]⟩, .slice (some ⟨b, off, none⟩) n c] 27)) 39 #[.int .i64 0, .float .f64 0, .string ⟨#[]⟩, .slice none 0 0]).alloc (.cells #[.int .i64 5, .float .f64 0, .string ⟨#[]⟩, .slice none 0 0] 39)
      simpa using this
    · have := Blk.new ((w.alloc (.cells #[.int .i64 5, .int .i64 0, .int .i64 0, .string ⟨#[]⟩, .slice (some ⟨b, off, none⟩) n c] 27)).alloc (.cells #[.int .i64 0, .float .f64 0, .string ⟨#[]⟩, .slice none 0 0] 39)) 39 #[.int .i64 5, .float .f64 0, .string ⟨#[]⟩, .slice none 0 0]
      simpa using this
    · exact (((Below.refl _ _).alloc (Nat.le_refl _) _).alloc (by simp) _).alloc (by simp; omega) _
  case round =>
    obtain ⟨k, y, G, hk, rfl, hat, hmany⟩ := hrel
    have HA := Lib.hid hat
    have HM := Lib.hid hmany
    obtain ⟨b0, b1, b2, hbw⟩ := hat
    have c4 : wr.cell? ⟨w.heap.size, 4, none⟩ = some (.slice (some ⟨b, off, none⟩) n c) := b0.cell 4
    have o3 : wr.cell? ⟨w.heap.size + 1 + 1, 3, none⟩ = some y := b2.cell 3
    have o0 : wr.cell? ⟨w.heap.size + 1 + 1, 0, none⟩ = some (.int .i64 5) := b2.cell 0
    have o1 : wr.cell? ⟨w.heap.size + 1 + 1, 1, none⟩ = some (.float .f64 0) := b2.cell 1
    have o2 : wr.cell? ⟨w.heap.size + 1 + 1, 2, none⟩ = some (.string ⟨#[]⟩) := b2.cell 2
    have f3 : wr.frozen? ⟨w.heap.size + 1 + 1, 3, none⟩ = false := b2.free 3
    have hlt2 : w.heap.size + 1 + 1 < wr.heap.size := b2.lt
    clear b0 hbw hmany
    by_cases hlt : k < n
    · clear o0 o1 o2 b1 b2
      obtain ⟨r, hr⟩ : ∃ r, rows[k]? = some r := ⟨_, List.getElem?_eq_getElem (by rw [← HN.out]; exact hlt)⟩
      obtain ⟨hd, hc, hrn, b', off', c', rfl, hb', hrow'⟩ := HR.out k (fvs r) (by simp [hr])
      have d0 : wr.cell? ⟨b, off + k, none⟩ = some (.slice (some ⟨b', off', none⟩) r.length c') := by
        rw [show r.length = (fvs r).length by simp [fvs]]
        exact (HA.out.2.2.2.cell (p := ⟨b, off + k, none⟩) hb).trans hc
      have hall : Hid (∀ W, Below wr.heap.size wr W → Calls Tryz.prog 16 #[.slice (some ⟨b', off', none⟩) r.length c'] W fun e w' => ∃ g cap, e = .returned (.slice (some ⟨g, 0, none⟩) r.length cap) ∧ RowIs 4 w' (New W.heap.size w') (.slice (some ⟨g, 0, none⟩) r.length cap) (ofs r) ∧ Below W.heap.size W w') := by
        refine Lib.hid fun W hW => ?_
        have hbw := HA.out.2.2.2.trans (hW.mono HA.out.2.2.2.size)
        exact all_row b' off' c' r W (HO.out r (List.mem_of_getElem? hr)).2 (hrow'.below hbw hb') (Nat.lt_of_lt_of_le hb' hbw.size) (HO.out r (List.mem_of_getElem? hr)).1 (by intro h; subst h; exact hrn rfl)
      have HRR := Lib.hid hr
      clear hr hc hrow' hrn
      obtain ⟨i0, hi0, hz0, hz1, hz2⟩ := info_parts infoIs
      have HI := Lib.hid (And.intro hi0 (And.intro hz0 (And.intro hz1 hz2)))
      have hGl : G.length ≤ 1000000 := by rw [HM.out.len]; simp; omega
      have hcs : Hid (∀ c ∈ G.map (KRow 4).cells, c.length = 1) := Lib.hid HM.out.1.2
      have hne : some (w.heap.size + 1 + 1) ≠ y.ownBlock := far_of HM.out
      clear hi0 hz0 hz1 hz2
      go_wp2_with fail
      go_region_law (first
        | (go_simp
           go_at_call 16
           refine (hall.out _ (Below.refl _ _).drew).mono ?_
           rintro e w1 ⟨g5, c5, rfl, hsv, hb1⟩
           have HSV := Lib.hid hsv
           have hz1 : wr.heap.size ≤ w1.heap.size := hb1.size
           clear hsv
           have o3' := (hb1.cell (p := ⟨w.heap.size + 1 + 1, 3, none⟩) hlt2).trans o3
           have f3' := (hb1.frozen (p := ⟨w.heap.size + 1 + 1, 3, none⟩) hlt2).trans f3
           have hlt4 : w.heap.size + 1 + 1 < w1.heap.size := by omega
           have hba : Below w1.heap.size w1 (w1.alloc (.cells #[.slice (some ⟨g5, 0, none⟩) r.length c5] 41)) := (Below.refl _ _).alloc (Nat.le_refl _) _
           have o3b := (hba.cell (p := ⟨w.heap.size + 1 + 1, 3, none⟩) hlt4).trans o3')
        | (have hown1 := (row_of HM.out hb1).alloc (.cells #[.slice (some ⟨g5, 0, none⟩) r.length c5] 41)
           have hnews := cells_new w1 #[.slice (some ⟨g5, 0, none⟩) r.length c5] 41
           have hone : ∀ u ∈ [Value.slice (some ⟨g5, 0, none⟩) r.length c5], u.oneCell' = true := one_slice _ _ _
           have hml : G.length + 1 ≤ maxLen := Nat.le_trans (Nat.succ_le_succ hGl) (by decide)
           have hbas : w.heap.size + 1 + 1 + 1 ≤ (w1.alloc (.cells #[.slice (some ⟨g5, 0, none⟩) r.length c5] 41)).heap.size := by rw [World.size_alloc]; omega
           have hbyt : (G.length + 1) * 24 ≤ 140737488355328 := by omega
           refine step_append_lies _ (by rfl) _ _ _ (by rfl) (w.heap.size + 1 + 1 + 1) 41 i0 _ 1 24 Tryz.underlying37 HI.out.1 HI.out.2.1 HI.out.2.2.1 HI.out.2.2.2 rfl (by decide) y G.length (G.map (KRow 4).cells).flatten (by rfl) hown1
            ⟨w1.heap.size, 0, none⟩ 1 1 [.slice (some ⟨g5, 0, none⟩) r.length c5] (by rfl) (by rfl) hnews hone (by decide) hml hbyt hbas (w1.heap.size + 1) (by simp) ?_
           intro gg cap w2 hown2 hgrow hat2 hlt3
           have o3'' : w2.cell? ⟨w.heap.size + 1 + 1, 3, none⟩ = some y := hgrow.cell (a := ⟨w.heap.size + 1 + 1, 3, none⟩) o3b hne
           have f3'' : w2.frozen? ⟨w.heap.size + 1 + 1, 3, none⟩ = false := (World.frozen?_of_block (hgrow.block (w.heap.size + 1 + 1) (Nat.lt_of_lt_of_le hlt4 hba.size) hne)).trans ((hba.frozen (p := ⟨w.heap.size + 1 + 1, 3, none⟩) hlt4).trans f3')))
      all_goals
        have hpush := HM.out.push (K := KRow 4) (g := .slice (some ⟨g5, 0, none⟩) r.length c5) (m := ofs r) (o := .cells #[.slice (some ⟨g5, 0, none⟩) r.length c5] 41) (y' := .slice (some ⟨gg, 0, none⟩) (G.length + 1) cap) (by omega) ((Below.drew (Below.refl _ wr)).trans hb1) HSV.out (owns_of hown2 HM.out.1.2) hgrow (hat2.elim (fun h => .inl (by rw [h]; rfl)) fun h => .inr ⟨gg, rfl, by rw [h]; simp⟩)
        have HP := Lib.hid hpush
        clear hpush
        go_wp2_with fail
        go_roundw
        case rel => exact ⟨k + 1, _, G ++ [.slice (some ⟨g5, 0, none⟩) r.length c5], by omega, by go_num, HA.out.step HP.out.2 _, by rw [List.take_add_one, HRR.out]; simp only [Option.toList, List.map_append, List.map_cons, List.map_nil]; exact HP.out.1.far (by show w.heap.size + 1 + 1 < _; omega) _⟩
        case measure => simp [intOf]; omega
    · have hkn : k = n := by omega
      subst hkn
      have hm := HM.out
      rw [List.take_of_length_le (by rw [HN.out]; exact Nat.le_refl _)] at hm
      obtain ⟨g, cap, rfl, hg, hrs⟩ := rows_out hm (by intro h; exact HE.out (by simpa using h))
      have hle : (rows.map ofs).length = k := by rw [List.length_map, HN.out]
      rw [hle] at hrs o3 b2 HA
      have HS := Lib.hid hrs
      have HB := Lib.hid HA.out.2.2.2
      have p0 : wr.cell? ⟨w.heap.size + 1, 0, none⟩ = some (.int .i64 0) := b1.cell 0
      have p1 : wr.cell? ⟨w.heap.size + 1, 1, none⟩ = some (.float .f64 0) := b1.cell 1
      have p2 : wr.cell? ⟨w.heap.size + 1, 2, none⟩ = some (.string ⟨#[]⟩) := b1.cell 2
      have p3 : wr.cell? ⟨w.heap.size + 1, 3, none⟩ = some (.slice none 0 0) := b1.cell 3
      have pf : ∀ o, wr.frozen? ⟨w.heap.size + 1, o, none⟩ = false := fun o => b1.free o
      clear hm hrs hle b1 b2 HM HA hg f3 hlt2
      go_wp2
      exact bodyPost_ret (v := (.agg #[.int .i64 5, .float .f64 0, .string ⟨#[]⟩, .slice (some ⟨g, 0, none⟩) k cap])) (by simp [results, Tryz.results25, go_sem, p0, p1, p2, p3, pf, o0, o1, o2, o3]) rfl ⟨_, cap, rfl, (HS.out.keep (((((Keep.refl _ _).set (by intro q hq; have := hq.1; show q ≠ w.heap.size + 1; omega) _).set (by intro q hq; have := hq.1; show q ≠ w.heap.size + 1; omega) _).set (by intro q hq; have := hq.1; show q ≠ w.heap.size + 1; omega) _).set (by intro q hq; have := hq.1; show q ≠ w.heap.size + 1; omega) _)).more (by intro q hq; exact ⟨by have := hq.1; omega, by simp only [size_setCell]; exact hq.2⟩), ((((HB.out.setCell (by show w.heap.size ≤ w.heap.size + 1; omega) _).setCell (by show w.heap.size ≤ w.heap.size + 1; omega) _).setCell (by show w.heap.size ≤ w.heap.size + 1; omega) _).setCell (by show w.heap.size ≤ w.heap.size + 1; omega) _)⟩

theorem of_any (v : Ve) (m : Mv) (w : World) (hv : VIs w (· < w.heap.size) v m) (hm : m.Ok) :
    Calls Tryz.prog 25 #[(.agg #[.int .i64 v.x.k, .int .i64 v.x.n, .int .i64 v.x.d, .string v.x.s, .slice v.A v.m v.c])] w fun e w' => ∃ u : Vg, e = .returned (.agg #[.int .i64 u.g.k, .float .f64 u.g.x, .string u.g.s, .slice u.A u.m u.c]) ∧ GIs w' (New w.heap.size w') u m.of ∧ Below w.heap.size w w' := by
  obtain ⟨x, A, n, c⟩ := v
  obtain ⟨y, rows⟩ := m
  obtain ⟨hx, ⟨hk, hr, hA, hn, hc⟩ | ⟨hk, hr⟩⟩ := hv
  · simp only at hx hk hr hA hn hc
    subst hx hr hA hn hc
    refine (of_flat x (hm.1 hk) w).mono ?_
    rintro e w1 ⟨rfl, hb1⟩
    refine ⟨⟨x.of, none, 0, 0⟩, rfl, ⟨rfl, .inl ⟨?_, rfl, rfl, rfl, rfl⟩⟩, hb1⟩
    exact hk
  · simp only at hx hk hr
    subst hx hk
    refine (of_mat A n c rows w hr hm.2.1 hm.2.2).mono ?_
    rintro e w1 ⟨A', c', rfl, h1, hb1⟩
    refine ⟨⟨⟨5, 0, ⟨#[]⟩⟩, A', n, c'⟩, rfl, ⟨?_, .inr ⟨?_, ?_⟩⟩, hb1⟩
    · rfl
    · rfl
    · rw [rowsG_of]; exact h1

set_option maxHeartbeats 1000000 in
theorem all_any (b off n c : Nat) (G : List Ve) (M : List Mv) (w : World) (hn : n = M.length) (hargs : ArgsIn w b off G M) (hlen : n ≤ 1000) (h0 : M ≠ []) :
    Calls Tryz.prog 16 #[.slice (some ⟨b, off, none⟩) n c] w fun e w' => ∃ g cap G', e = .returned (.slice (some ⟨g, 0, none⟩) n cap) ∧ ArgsOut w' g G' (M.map Mv.of) ∧ Below w.heap.size w w' := by
  have HN := Lib.hid hn
  have HA := Lib.hid hargs
  have H0 := Lib.hid h0
  have hb := hargs.1
  clear hn hargs h0
  go_enter Tryz.func16, Tryz.ntmps16
  go_wp2
  go_loopw [3, 4] (fun v i wr => ∃ (k : Nat) (y : Value) (G' : List Vg), k ≤ n ∧ i = .int .i64 k ∧ y = v ∧ Below w.heap.size w wr ∧ KG.Many wr w.heap.size 39 4 y G' ((M.take k).map Mv.of)) (fun _ i _ => n - (intOf i).toNat)
  case atStart => exact ⟨0, _, [], Nat.zero_le _, rfl, rfl, Below.refl _ _, Kind.Many.nil _ _ _ _⟩
  case round =>
    obtain ⟨k, y, G', hk, rfl, rfl, hbe, hmany⟩ := hrel
    have HM := Lib.hid hmany
    clear hmany
    by_cases hlt : k < n
    · obtain ⟨m, hm⟩ : ∃ m, M[k]? = some m := ⟨_, List.getElem?_eq_getElem (by rw [← HN.out]; exact hlt)⟩
      obtain ⟨v, hv⟩ : ∃ v, G[k]? = some v := ⟨_, List.getElem?_eq_getElem (by rw [HA.out.2.2.1.1, ← HN.out]; exact hlt)⟩
      have hA2 := HA.out.below hbe
      have hR := hA2.2.1 k v.cells (by simp [hv])
      have c0 : wr.cell? ⟨b, off + k * 5, none⟩ = some (.int .i64 v.x.k) := hR.2 0 _ rfl
      have c1 : wr.cell? ⟨b, off + k * 5 + 1, none⟩ = some (.int .i64 v.x.n) := hR.2 1 _ rfl
      have c2 : wr.cell? ⟨b, off + k * 5 + 2, none⟩ = some (.int .i64 v.x.d) := hR.2 2 _ rfl
      have c3 : wr.cell? ⟨b, off + k * 5 + 3, none⟩ = some (.string v.x.s) := hR.2 3 _ rfl
      have c4 : wr.cell? ⟨b, off + k * 5 + 4, none⟩ = some (.slice v.A v.m v.c) := hR.2 4 _ rfl
      have HV := Lib.hid (And.intro (hA2.2.2.1.2 k v m hv hm) (hA2.2.2.2 m (List.mem_of_getElem? hm)))
      have HX := Lib.hid hm
      have hsz := hbe.size
      clear hm hv hA2 hR
      go_wp2_with fail
      refine (of_any v m _ (by exact HV.out.1) HV.out.2).mono ?_
      rintro e w1 ⟨u, rfl, hu, hb1⟩
      have hz1 := hb1.size
      have HU := Lib.hid hu
      have hown1 : Owns w1 w.heap.size 39 4 y (G'.map Vg.cells) := (HM.out.below hb1).1
      have hlk : (G'.map Vg.cells).length ≤ 1000000 := by rw [List.length_map, HM.out.len]; simp; omega
      clear hu c0 c1 c2 c3 c4
      go_wp2_with (at_builtin; refine wpList_append_box w1 rfl (.tmp 11) (.tmp 17) 41 rfl w.heap.size 39 _ 4 56 Tryz.underlying41 infoI rfl (by decide) y (G'.map Vg.cells) (by rfl) (by exact hown1) #[.int .i64 u.g.k, .float .f64 u.g.x, .string u.g.s, .slice u.A u.m u.c] rfl 1 _ (by rfl) (by simp) (by exact u.one) hlk (by decide) (by omega) ?_; intro v' w2 hown2 hg2 hat2 hbe2)
      have hpush := HM.out.push (g := u) (m := m.of) hsz hb1 HU.out hown2 hg2 (hat2.elim .inl fun h => .inr ⟨_, h, by simp⟩)
      have HP := Lib.hid hpush
      clear hpush
      go_roundw
      case rel => exact ⟨k + 1, _, G' ++ [u], by omega, by go_num, rfl, hbe.trans HP.out.2, by rw [List.take_add_one, HX.out]; simp only [Option.toList, List.map_append, List.map_cons, List.map_nil]; exact HP.out.1⟩
      case measure => simp [intOf]; omega
    · have hkn : k = n := by omega
      subst hkn
      have hm := HM.out
      rw [List.take_of_length_le (by rw [HN.out]; exact Nat.le_refl _)] at hm
      obtain ⟨g, cap, rfl, hg, hrow, hall⟩ := hm.out (by intro h; exact H0.out (by simpa using h))
      have HS := Lib.hid (And.intro hg (And.intro hrow hall))
      have hle : (M.map Mv.of).length = k := by rw [List.length_map, HN.out]
      rw [hle]
      clear hm hrow hall hle hg
      go_wp2
      go_ret
      exact ⟨g, cap, G', rfl, ⟨HS.out.1.2, HS.out.2.1, HS.out.2.2.more fun q hq => hq.2⟩, hbe⟩

end Go.Proofs.YtdpkjhohklfieaaGreat
