/- in: values with rows through the door. -/
import Derived.Test.YtdpkjhohklfieaaGreatGo
set_option linter.unusedSimpArgs false
set_option linter.unusedVariables false
namespace Go.Proofs.YtdpkjhohklfieaaGreat
open Go.RowKit
set_option maxRecDepth 100000

theorem infoAs : ((Tryz.prog.info? 51)).map (fun i => (i.zero, i.size, i.bytes)) = some (some (.slice none 0 0), 1, 24) := by kernel_rfl
theorem gls_len (r : List Gl) : (gls r).length = r.length := by simp [gls]

theorem in_row (b off c : Nat) (r : List Gl) (w : World) (hrow : Row w b off 4 (gls r)) (hb : b < w.heap.size) (hlen : r.length ≤ 1000) (hn : r ≠ []) :
    Calls Tryz.prog 19 #[.slice (some ⟨b, off, none⟩) r.length c] w fun e w' => ∃ g cap, e = .returned (.slice (some ⟨g, 0, none⟩) r.length cap) ∧ RowIs 4 w' (New w.heap.size w') (.slice (some ⟨g, 0, none⟩) r.length cap) (gls r) ∧ Below w.heap.size w w' := by
  refine (in_flat b off c r w hrow hb hlen).mono ?_
  rintro e w1 ⟨v, rfl, hv, hb1⟩
  have hr := hv.rowIs (by simpa [gls] using hn)
  obtain ⟨h0, g, off', cap, hv', h1, h2⟩ := hr
  obtain ⟨g2, cap2, hv2, _⟩ := hv.row h0
  rw [hv2] at hv'
  injection hv' with e1 e2 e3
  injection e1 with e1
  injection e1 with e1 e1'
  subst e1 e1' e3
  rw [gls_len] at hv2
  exact ⟨g2, cap2, by rw [hv2], ⟨h0, g2, 0, cap2, by rw [gls_len], h1, h2⟩, hb1⟩

/-- What lies around the inner loop of 'in'. -/
def InAt (w wr : World) (v : Vg) (z : Value) : Prop :=
  Blk wr w.heap.size 39 #[.int .i64 v.g.k, .float .f64 v.g.x, .string v.g.s, .slice v.A v.m v.c] ∧
    Blk wr (w.heap.size + 1) 49 #[.int .i64 v.g.k, .float .f64 v.g.x, .string v.g.s, z] ∧ Below w.heap.size w wr
theorem InAt.step {w wr w2 : World} {v : Vg} {z : Value} (h : InAt w wr v z) (hb : Below (w.heap.size + 1 + 1) wr w2) (z' : Value) : InAt w (w2.setCell ⟨w.heap.size + 1, 3, none⟩ z') v z' := by
  obtain ⟨h0, h2, h3⟩ := h
  refine ⟨(h0.below hb (by omega)).far (p := ⟨w.heap.size + 1, 3, none⟩) (by show w.heap.size ≠ w.heap.size + 1; omega) z', ?_, ?_⟩
  · have := (h2.below hb (by omega)).put 3 z'
    simpa using this
  · exact (h3.trans (hb.mono (by omega))).setCell (by show w.heap.size ≤ w.heap.size + 1; omega) _
theorem InAt.start (w : World) (v : Vg) : InAt w ((w.alloc (.cells #[.int .i64 v.g.k, .float .f64 v.g.x, .string v.g.s, .slice v.A v.m v.c] 39)).alloc (.cells #[.int .i64 v.g.k, .float .f64 v.g.x, .string v.g.s, .slice none 0 0] 49)) v (.slice none 0 0) := by
  refine ⟨(Blk.new w _ _).alloc _, ?_, ((Below.refl _ _).alloc (Nat.le_refl _) _).alloc (by simp) _⟩
  have := Blk.new (w.alloc (.cells #[.int .i64 v.g.k, .float .f64 v.g.x, .string v.g.s, .slice v.A v.m v.c] 39)) 49 #[.int .i64 v.g.k, .float .f64 v.g.x, .string v.g.s, .slice none 0 0]
  simpa using this

set_option maxHeartbeats 4000000 in
theorem in_any (b n c : Nat) (G : List Vg) (M : List Mg) (w : World) (hn : n = M.length) (hargs : ArgsOut w b G M) (hlen : n ≤ 1000) (h0 : M ≠ []) (hok : ∀ m ∈ M, m.rows.length ≤ 1000 ∧ ∀ r ∈ m.rows, r.length ≤ 1000) :
    Calls Tryz.prog 19 #[.slice (some ⟨b, 0, none⟩) n c] w fun e w' => ∃ g cap G', e = .returned (.slice (some ⟨g, 0, none⟩) n cap) ∧ ArgsOut w' g G' M ∧ Below w.heap.size w w' := by
  have HN := Lib.hid hn
  have HA := Lib.hid hargs
  have H0 := Lib.hid h0
  have HO := Lib.hid hok
  have hb := hargs.1
  clear hn hargs h0 hok
  go_enter Tryz.func19, Tryz.ntmps19
  go_wp2
  go_loopw [3, 11] (fun v i wr => ∃ (k : Nat) (y : Value) (G' : List Vg), k ≤ n ∧ i = .int .i64 k ∧ y = v ∧ Below w.heap.size w wr ∧ KG.Many wr w.heap.size 49 4 y G' (M.take k)) (fun _ i _ => n - (intOf i).toNat)
  case atStart => exact ⟨0, _, [], Nat.zero_le _, rfl, rfl, Below.refl _ _, Kind.Many.nil _ _ _ _⟩
  case round =>
    obtain ⟨k, y, G', hk, rfl, rfl, hbe, hmany⟩ := hrel
    have HM := Lib.hid hmany
    clear hmany
    by_cases hlt : k < n
    · obtain ⟨m, hm⟩ : ∃ m, M[k]? = some m := ⟨_, List.getElem?_eq_getElem (by rw [← HN.out]; exact hlt)⟩
      obtain ⟨v, hv⟩ : ∃ v, G[k]? = some v := ⟨_, List.getElem?_eq_getElem (by rw [HA.out.2.2.1, ← HN.out]; exact hlt)⟩
      have hR := (HA.out.2.1.below hbe hb) k v.cells (by simp [hv])
      have c0 : wr.cell? ⟨b, k * 4, none⟩ = some (.int .i64 v.g.k) := by simpa using hR.2 0 _ rfl
      have c1 : wr.cell? ⟨b, k * 4 + 1, none⟩ = some (.float .f64 v.g.x) := by simpa using hR.2 1 _ rfl
      have c2 : wr.cell? ⟨b, k * 4 + 2, none⟩ = some (.string v.g.s) := by simpa using hR.2 2 _ rfl
      have c3 : wr.cell? ⟨b, k * 4 + 3, none⟩ = some (.slice v.A v.m v.c) := by simpa using hR.2 3 _ rfl
      have hG : GIs wr (· < wr.heap.size) v m := KG.more (KG.keep (HA.out.2.2.2 k v m hv hm) (Keep.below hbe fun _ hk => hk)) fun _ hk => Nat.lt_of_lt_of_le hk hbe.size
      have HOK := Lib.hid (HO.out m (List.mem_of_getElem? hm))
      have HX := Lib.hid hm
      have hsz := hbe.size
      have HIA := Lib.hid (InAt.start wr v)
      clear hm hv hR
      obtain ⟨hvg, ⟨hk5, hmr, hA, hvm, hvc⟩ | ⟨hmg, hrs⟩⟩ := hG
      · have HE := Lib.hid (And.intro hvg (And.intro hmr hk5))
        obtain ⟨⟨vk, vx, vs⟩, vA, vm, vc⟩ := v
        simp only at hA hvm hvc c0 c1 c2 c3
        subst hA hvm hvc
        clear hvg hmr hk5
        go_wp2_with fail
        refine wp_loop_rounds 1 ?_
        rw [rounds_succ]
        clear c0 c1 c2 c3
        obtain ⟨wq, hwq⟩ : ∃ wq, wq = (wr.alloc (.cells #[.int .i64 vk, .float .f64 vx, .string vs, .slice none 0 0] 39)).alloc (.cells #[.int .i64 vk, .float .f64 vx, .string vs, .slice none 0 0] 49) := ⟨_, rfl⟩
        have HQ : Hid (InAt wr wq ⟨⟨vk, vx, vs⟩, none, 0, 0⟩ (.slice none 0 0)) := Lib.hid (by rw [hwq]; exact HIA.out)
        rw [← hwq]
        clear hwq HIA
        have a0 : wq.cell? ⟨wr.heap.size + 1, 0, none⟩ = some (.int .i64 vk) := HQ.out.2.1.cell 0
        have a1 : wq.cell? ⟨wr.heap.size + 1, 1, none⟩ = some (.float .f64 vx) := HQ.out.2.1.cell 1
        have a2 : wq.cell? ⟨wr.heap.size + 1, 2, none⟩ = some (.string vs) := HQ.out.2.1.cell 2
        have a3 : wq.cell? ⟨wr.heap.size + 1, 3, none⟩ = some (.slice none 0 0) := HQ.out.2.1.cell 3
        have b3 : wq.cell? ⟨wr.heap.size, 3, none⟩ = some (.slice none 0 0) := HQ.out.1.cell 3
        have b0 : wq.cell? ⟨wr.heap.size, 0, none⟩ = some (.int .i64 vk) := HQ.out.1.cell 0
        have HU : Hid (GIs wq (New wr.heap.size wq) (⟨⟨vk, vx, vs⟩, none, 0, 0⟩ : Vg) m) := Lib.hid ⟨HE.out.1, .inl ⟨HE.out.2.2, HE.out.2.1, rfl, rfl, rfl⟩⟩
        have hbq : Below wr.heap.size wr wq := HQ.out.2.2
        have hzq := hbq.size
        have hown1 : Owns wq w.heap.size 49 4 y (G'.map Vg.cells) := (HM.out.below hbq).1
        have hlk : (G'.map Vg.cells).length ≤ 1000000 := by rw [List.length_map, HM.out.len]; simp; omega

        go_wp2_with (at_builtin; refine wpList_append_box wq rfl (.tmp 37) (.tmp 39) 51 rfl w.heap.size 49 _ 4 56 Tryz.underlying51 infoA rfl (by decide) y (G'.map Vg.cells) (by rfl) (by exact hown1) #[.int .i64 vk, .float .f64 vx, .string vs, .slice none 0 0] rfl 1 _ (by rfl) (by simp) (by exact Vg.one (⟨⟨vk, vx, vs⟩, none, 0, 0⟩ : Vg)) hlk (by decide) (by omega) ?_; intro v' w2 hown2 hg2 hat2 hbe2)
        have hpush := HM.out.push (g := (⟨⟨vk, vx, vs⟩, none, 0, 0⟩ : Vg)) (m := m) hsz hbq HU.out hown2 hg2 (hat2.elim .inl fun h => .inr ⟨_, h, by simp⟩)
        have HP := Lib.hid hpush
        clear hpush
        go_roundw
        case rel => exact ⟨k + 1, _, G' ++ [(⟨⟨vk, vx, vs⟩, none, 0, 0⟩ : Vg)], by omega, by go_num, rfl, hbe.trans HP.out.2, by rw [List.take_add_one, HX.out]; exact HP.out.1⟩
        case measure => simp [intOf]; omega
      · have HE := Lib.hid hvg
        have HMG := Lib.hid hmg
        obtain ⟨⟨vk, vx, vs⟩, vA, vm, vc⟩ := v
        simp only at c0 c1 c2 c3 hrs
        obtain ⟨hne, hvm, b1, off1, rfl, hb1, hrow1⟩ := hrs
        have hvm' : vm = m.rows.length := by rw [hvm, rowsG, List.length_map]
        have hvl : vm ≤ 1000 := by rw [hvm']; exact HOK.out.1
        have HV := Lib.hid hvm'
        have HR := Lib.hid hrow1
        have HNE := Lib.hid hne
        clear hvg hmg hvm hrow1 hvm' hne
        go_wp2_with fail
        clear c0 c1 c2 c3
        obtain ⟨wo, rfl⟩ : ∃ wo : World, wo = wr := ⟨_, rfl⟩
        go_loopw [25] (fun i wq => ∃ (q : Nat) (z : Value) (H : List Value), q ≤ vm ∧ i = .int .i64 q ∧ InAt wo wq ⟨⟨vk, vx, vs⟩, some ⟨b1, off1, none⟩, vm, vc⟩ z ∧ (KRow 4).Many wq (wo.heap.size + 1 + 1) 51 1 z H ((m.rows.take q).map gls)) (fun i _ => vm - (intOf i).toNat)
        case atStart => exact ⟨0, _, [], Nat.zero_le _, rfl, HIA.out, Kind.Many.nil _ _ _ _⟩
        case round =>
          obtain ⟨q, z, H, hq, rfl, hia, hmq⟩ := hrel
          have HIQ := Lib.hid hia
          have HMQ := Lib.hid hmq
          have o3 : wr.cell? ⟨wo.heap.size + 1, 3, none⟩ = some z := hia.2.1.cell 3
          have f3 : wr.frozen? ⟨wo.heap.size + 1, 3, none⟩ = false := hia.2.1.free 3
          have hlt2 : wo.heap.size + 1 < wr.heap.size := hia.2.1.lt
          by_cases hqm : q < vm
          · clear hia hmq
            obtain ⟨r, hr⟩ : ∃ r, m.rows[q]? = some r := ⟨_, List.getElem?_eq_getElem (by rw [← HV.out]; exact hqm)⟩
            obtain ⟨hd, hc, hrn, b', off', c', rfl, hb', hrow'⟩ := HR.out q (gls r) (by simp [rowsG, hr])
            have d0 : wr.cell? ⟨b1, off1 + q, none⟩ = some (.slice (some ⟨b', off', none⟩) r.length c') := by
              rw [show r.length = (gls r).length by simp [gls]]
              exact (HIQ.out.2.2.cell (p := ⟨b1, off1 + q, none⟩) hb1).trans hc
            have hall : Hid (∀ W, Below wr.heap.size wr W → Calls Tryz.prog 19 #[.slice (some ⟨b', off', none⟩) r.length c'] W fun e w' => ∃ g cap, e = .returned (.slice (some ⟨g, 0, none⟩) r.length cap) ∧ RowIs 4 w' (New W.heap.size w') (.slice (some ⟨g, 0, none⟩) r.length cap) (gls r) ∧ Below W.heap.size W w') := by
              refine Lib.hid fun W hW => ?_
              have hbw := HIQ.out.2.2.trans (hW.mono HIQ.out.2.2.size)
              exact in_row b' off' c' r W (hrow'.below hbw hb') (Nat.lt_of_lt_of_le hb' hbw.size) (HOK.out.2 r (List.mem_of_getElem? hr)) (by intro h; subst h; exact hrn rfl)
            have HRR := Lib.hid hr
            clear hr hc hrow' hrn
            obtain ⟨i0, hi0, hz0, hz1, hz2⟩ := info_parts infoAs
            have HI := Lib.hid (And.intro hi0 (And.intro hz0 (And.intro hz1 hz2)))
            have hGl : H.length ≤ 1000000 := by rw [HMQ.out.len]; simp; omega
            have hne : some (wo.heap.size + 1) ≠ z.ownBlock := far_of HMQ.out
            clear hi0 hz0 hz1 hz2
            go_wp2_with fail
            go_region_law (first
              | (go_simp
                 go_at_call 19
                 refine (hall.out _ (Below.refl _ _).drew).mono ?_
                 rintro e w1 ⟨g5, c5, rfl, hsv, hb1'⟩
                 have HSV := Lib.hid hsv
                 have hz1 : wr.heap.size ≤ w1.heap.size := hb1'.size
                 clear hsv
                 have o3' := (hb1'.cell (p := ⟨wo.heap.size + 1, 3, none⟩) hlt2).trans o3
                 have f3' := (hb1'.frozen (p := ⟨wo.heap.size + 1, 3, none⟩) hlt2).trans f3
                 have hlt4 : wo.heap.size + 1 < w1.heap.size := by omega
                 have hba : Below w1.heap.size w1 (w1.alloc (.cells #[.slice (some ⟨g5, 0, none⟩) r.length c5] 51)) := (Below.refl _ _).alloc (Nat.le_refl _) _
                 have o3b := (hba.cell (p := ⟨wo.heap.size + 1, 3, none⟩) hlt4).trans o3')
              | (have hown1 := (row_of HMQ.out hb1').alloc (.cells #[.slice (some ⟨g5, 0, none⟩) r.length c5] 51)
                 have hnews := cells_new w1 #[.slice (some ⟨g5, 0, none⟩) r.length c5] 51
                 have hone : ∀ u ∈ [Value.slice (some ⟨g5, 0, none⟩) r.length c5], u.oneCell' = true := one_slice _ _ _
                 have hml : H.length + 1 ≤ maxLen := Nat.le_trans (Nat.succ_le_succ hGl) (by decide)
                 have hbas : wo.heap.size + 1 + 1 ≤ (w1.alloc (.cells #[.slice (some ⟨g5, 0, none⟩) r.length c5] 51)).heap.size := by rw [World.size_alloc]; omega
                 have hbyt : (H.length + 1) * 24 ≤ 140737488355328 := by omega
                 refine step_append_lies _ (by rfl) _ _ _ (by rfl) (wo.heap.size + 1 + 1) 51 i0 _ 1 24 Tryz.underlying47 HI.out.1 HI.out.2.1 HI.out.2.2.1 HI.out.2.2.2 rfl (by decide) z H.length (H.map (KRow 4).cells).flatten (by rfl) hown1
                  ⟨w1.heap.size, 0, none⟩ 1 1 [.slice (some ⟨g5, 0, none⟩) r.length c5] (by rfl) (by rfl) hnews hone (by decide) hml hbyt hbas (w1.heap.size + 1) (by simp) ?_
                 intro gg cap w2 hown2 hgrow hat2 hlt3
                 have o3'' : w2.cell? ⟨wo.heap.size + 1, 3, none⟩ = some z := hgrow.cell (a := ⟨wo.heap.size + 1, 3, none⟩) o3b hne
                 have f3'' : w2.frozen? ⟨wo.heap.size + 1, 3, none⟩ = false := (World.frozen?_of_block (hgrow.block (wo.heap.size + 1) (Nat.lt_of_lt_of_le hlt4 hba.size) hne)).trans ((hba.frozen (p := ⟨wo.heap.size + 1, 3, none⟩) hlt4).trans f3')))
            all_goals
              have hpush := HMQ.out.push (K := KRow 4) (g := .slice (some ⟨g5, 0, none⟩) r.length c5) (m := gls r) (o := .cells #[.slice (some ⟨g5, 0, none⟩) r.length c5] 51) (y' := .slice (some ⟨gg, 0, none⟩) (H.length + 1) cap) (by omega) ((Below.drew (Below.refl _ wr)).trans hb1') HSV.out (owns_of hown2 HMQ.out.1.2) hgrow (hat2.elim (fun h => .inl (by rw [h]; rfl)) fun h => .inr ⟨gg, rfl, by rw [h]; simp⟩)
              have HP := Lib.hid hpush
              clear hpush
              go_wp2_with fail
              go_roundw
              case rel => exact ⟨q + 1, _, H ++ [.slice (some ⟨g5, 0, none⟩) r.length c5], by omega, by go_num, HIQ.out.step HP.out.2 _, by rw [List.take_add_one, HRR.out]; simp only [Option.toList, List.map_append, List.map_cons, List.map_nil]; exact HP.out.1.far (by show wo.heap.size + 1 < _; omega) _⟩
              case measure => simp [intOf]; omega
          · have hqe : q = vm := by omega
            subst hqe
            have hm2 := HMQ.out
            rw [List.take_of_length_le (by rw [HV.out]; exact Nat.le_refl _)] at hm2
            obtain ⟨g5, c5, rfl, hg5, hrs5⟩ := rows_out hm2 (by intro h; exact HNE.out (by simpa [rowsG] using h))
            have hle : (m.rows.map gls).length = q := by rw [List.length_map, HV.out]
            rw [hle] at hrs5 o3 hia HIQ
            have HRS := Lib.hid hrs5
            have a0 : wr.cell? ⟨wo.heap.size + 1, 0, none⟩ = some (.int .i64 vk) := hia.2.1.cell 0
            have a1 : wr.cell? ⟨wo.heap.size + 1, 1, none⟩ = some (.float .f64 vx) := hia.2.1.cell 1
            have a2 : wr.cell? ⟨wo.heap.size + 1, 2, none⟩ = some (.string vs) := hia.2.1.cell 2
            clear hm2 hrs5 hle hia hmq HMQ hg5 f3 hlt2
            obtain ⟨wq, rfl⟩ : ∃ wq : World, wq = wr := ⟨_, rfl⟩
            obtain ⟨wr, rfl⟩ : ∃ wr : World, wr = wo := ⟨_, rfl⟩
            have HU : Hid (GIs wq (New wr.heap.size wq) (⟨⟨vk, vx, vs⟩, some ⟨g5, 0, none⟩, q, c5⟩ : Vg) m) := Lib.hid ⟨HE.out, .inr ⟨HMG.out, HRS.out.more (fun p hp => ⟨by have := hp.1; omega, hp.2⟩)⟩⟩
            have hbq : Below wr.heap.size wr wq := HIQ.out.2.2
            have hzq := hbq.size
            have hown1 : Owns wq w.heap.size 49 4 y (G'.map Vg.cells) := (HM.out.below hbq).1
            have hlk : (G'.map Vg.cells).length ≤ 1000000 := by rw [List.length_map, HM.out.len]; simp; omega

            go_wp2_with (at_builtin; refine wpList_append_box wq rfl (.tmp 37) (.tmp 39) 51 rfl w.heap.size 49 _ 4 56 Tryz.underlying51 infoA rfl (by decide) y (G'.map Vg.cells) (by rfl) (by exact hown1) #[.int .i64 vk, .float .f64 vx, .string vs, .slice (some ⟨g5, 0, none⟩) q c5] rfl 1 _ (by rfl) (by simp) (by exact Vg.one (⟨⟨vk, vx, vs⟩, some ⟨g5, 0, none⟩, q, c5⟩ : Vg)) hlk (by decide) (by omega) ?_; intro v' w2 hown2 hg2 hat2 hbe2)
            have hpush := HM.out.push (g := (⟨⟨vk, vx, vs⟩, some ⟨g5, 0, none⟩, q, c5⟩ : Vg)) (m := m) hsz hbq HU.out hown2 hg2 (hat2.elim .inl fun h => .inr ⟨_, h, by simp⟩)
            have HP := Lib.hid hpush
            clear hpush
            go_roundw
            case rel => exact ⟨k + 1, _, G' ++ [(⟨⟨vk, vx, vs⟩, some ⟨g5, 0, none⟩, q, c5⟩ : Vg)], by omega, by go_num, rfl, hbe.trans HP.out.2, by rw [List.take_add_one, HX.out]; exact HP.out.1⟩
            case measure => simp [intOf]; omega
    · have hkn : k = n := by omega
      subst hkn
      have hm := HM.out
      rw [List.take_of_length_le (by rw [HN.out]; exact Nat.le_refl _)] at hm
      obtain ⟨g, cap, rfl, hg, hrow, hall⟩ := hm.out H0.out
      have HS := Lib.hid (And.intro hg (And.intro hrow hall))
      rw [← HN.out]
      clear hm hrow hall hg
      go_wp2
      go_ret
      exact ⟨g, cap, G', rfl, ⟨HS.out.1.2, HS.out.2.1, HS.out.2.2.more fun q hq => hq.2⟩, hbe⟩

end Go.Proofs.YtdpkjhohklfieaaGreat
