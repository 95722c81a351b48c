/- impl.out of a matrix. -/
import Derived.Test.YtdpkjhohklfieaaGreatDr
set_option linter.unusedSimpArgs false
set_option linter.unusedVariables false
namespace Go.Proofs.YtdpkjhohklfieaaGreat
open Go.RowKit
set_option maxRecDepth 100000
set_option maxHeartbeats 1000000

theorem infoIs2 : ((Tryz.prog.info? 41)).map (fun i => (i.zero, i.size, i.bytes)) = some (some (.slice none 0 0), 1, 24) := by kernel_rfl
theorem gls_snoc (r : List Gl) (q : Nat) (g : Gl) (h : r[q]? = some g) : gls (r.take (q + 1)) = gls (r.take q) ++ [g.cells] := by
  unfold gls
  rw [List.take_add_one, h]
  simp
def OutAt (w wr : World) (z : Value) (rows : List (List Gl)) (k : Nat) : Prop :=
  ∃ H : List Value, Zero4 wr (w.heap.size + 1) ∧ Blk wr (w.heap.size + 2) 39 #[.int .i64 5, .float .f64 0, .string ⟨#[]⟩, z] ∧ Below w.heap.size w wr ∧ w.heap.size + 3 ≤ wr.heap.size ∧ (KRow 4).Many wr (w.heap.size + 3) 41 1 z H ((rows.take k).map gls)
def OutIn (wo wq : World) (z : Value) (r : List Gl) (q : Nat) : Prop := Below wo.heap.size wo wq ∧ Owns wq wo.heap.size 39 4 z (gls (r.take q))

set_option maxHeartbeats 8000000 in
theorem out_mat (A : Option Addr) (n c : Nat) (rows : List (List Gl)) (w : World) (hr : RowsIs 4 w (· < w.heap.size) A n (rows.map gls)) (hn : n ≤ 1000) (hC : ∀ r ∈ rows, r.length ≤ 1000) :
    Calls Tryz.prog 17 #[(.agg #[.int .i64 5, .float .f64 0, .string ⟨#[]⟩, .slice A n c])] w fun e w' => ∃ g cap, e = .returned (.agg #[.int .i64 5, .float .f64 0, .string ⟨#[]⟩, .slice (some ⟨g, 0, none⟩) n cap]) ∧ RowsIs 4 w' (New w.heap.size w') (some ⟨g, 0, none⟩) n (rows.map gls) ∧ Below w.heap.size w w' := by
  obtain ⟨hne, hm0, b, off, rfl, hb, hrow⟩ := hr
  have hm : n = rows.length := by rw [hm0]; exact List.length_map _
  have hne' : rows ≠ [] := by intro h; rw [h] at hne; exact hne rfl
  clear hm0 hne
  have HM := Lib.hid (And.intro hm (And.intro hC hne'))
  have HROW := Lib.hid hrow
  have hAt : OutAt w (((w.alloc (.cells #[.int .i64 5, .float .f64 0, .string ⟨#[]⟩, .slice (some ⟨b, off, none⟩) n c] 49)).alloc (.cells #[.int .i64 0, .float .f64 0, .string ⟨#[]⟩, .slice none 0 0] 39)).alloc (.cells #[.int .i64 5, .float .f64 0, .string ⟨#[]⟩, .slice none 0 0] 39)) (.slice none 0 0) rows 0 := by
    have hz : Zero4 ((w.alloc (.cells #[.int .i64 5, .float .f64 0, .string ⟨#[]⟩, .slice (some ⟨b, off, none⟩) n c] 49)).alloc (.cells #[.int .i64 0, .float .f64 0, .string ⟨#[]⟩, .slice none 0 0] 39)) (w.heap.size + 1) := by
      have := Zero4.new (w.alloc (.cells #[.int .i64 5, .float .f64 0, .string ⟨#[]⟩, .slice (some ⟨b, off, none⟩) n c] 49)) 39
      simpa using this
    have hB : Blk (((w.alloc (.cells #[.int .i64 5, .float .f64 0, .string ⟨#[]⟩, .slice (some ⟨b, off, none⟩) n c] 49)).alloc (.cells #[.int .i64 0, .float .f64 0, .string ⟨#[]⟩, .slice none 0 0] 39)).alloc (.cells #[.int .i64 5, .float .f64 0, .string ⟨#[]⟩, .slice none 0 0] 39)) (w.heap.size + 2) 39 #[.int .i64 5, .float .f64 0, .string ⟨#[]⟩, .slice none 0 0] := by
      have := Blk.new ((w.alloc (.cells #[.int .i64 5, .float .f64 0, .string ⟨#[]⟩, .slice (some ⟨b, off, none⟩) n c] 49)).alloc (.cells #[.int .i64 0, .float .f64 0, .string ⟨#[]⟩, .slice none 0 0] 39)) 39 #[.int .i64 5, .float .f64 0, .string ⟨#[]⟩, .slice none 0 0]
      simpa using this
    exact ⟨[], hz.below ((Below.refl _ _).alloc (Nat.le_refl _) _), hB, (((Below.refl _ _).alloc (Nat.le_refl _) _).alloc (by simp) _).alloc (by simp only [World.size_alloc]; omega) _, by simp, Kind.Many.nil _ _ _ _⟩
  have HAT := Lib.hid hAt
  clear hm hrow hC hne' hAt
  go_enter Tryz.func17, Tryz.ntmps17
  go_wp2_with fail
  go_loopw [19] (fun i wr => ∃ (k : Nat) (z : Value), k ≤ n ∧ i = .int .i64 k ∧ OutAt w wr z rows k) (fun i _ => n - (intOf i).toNat)
  case atStart => exact ⟨0, _, Nat.zero_le _, rfl, HAT.out⟩
  case round =>
    obtain ⟨k, y, hk, rfl, H, hz, hblk, hbe, hsz, hmany⟩ := hrel
    have HA := Lib.hid (And.intro hz (And.intro hblk (And.intro hbe hmany)))
    have y3 : wr.cell? ⟨w.heap.size + 1 + 1, 3, none⟩ = some y := hblk.cell 3
    have yf : wr.frozen? ⟨w.heap.size + 1 + 1, 3, none⟩ = false := hblk.free 3
    clear hbe hmany hz hblk HAT
    by_cases hlt : k < n
    · obtain ⟨r, hr⟩ : ∃ r, rows[k]? = some r := ⟨_, List.getElem?_eq_getElem (by rw [← HM.out.1]; exact hlt)⟩
      obtain ⟨hh, hc, hrn, b2, off2, c2, rfl, hb2, hrow2⟩ := HROW.out k (gls r) (by rw [List.getElem?_map, hr]; rfl)
      obtain ⟨u, hu⟩ : ∃ u, u = r.length := ⟨_, rfl⟩
      have hl : (gls r).length = u := by rw [hu]; exact List.length_map _
      rw [hl] at hc
      have hc1 : wr.cell? ⟨b, off + k, none⟩ = some (.slice (some ⟨b2, off2, none⟩) u c2) := (HA.out.2.2.1.cell (p := ⟨b, off + k, none⟩) hb).trans hc
      have hul : u ≤ 1000 := by rw [hu]; exact HM.out.2.1 r (List.mem_of_getElem? hr)
      have HR2 := Lib.hid (And.intro hr (And.intro hu (And.intro hrow2 hrn)))
      have hb2' : b2 < w.heap.size := hb2
      clear hr hc hl hrow2 hb2 hu hrn y3 yf
      go_wp2_with fail
      clear hc1
      obtain ⟨wo, rfl⟩ : ∃ wo : World, wo = wr := ⟨_, rfl⟩
      go_loopw [6, 25] (fun v i wq => ∃ (q : Nat) (z : Value), q ≤ u ∧ i = .int .i64 q ∧ z = v ∧ OutIn wo wq z r q) (fun _ i _ => u - (intOf i).toNat)
      case atStart => exact ⟨0, _, Nat.zero_le _, rfl, rfl, Below.refl _ _, Owns.nil_ _ _ _ _⟩
      case round =>
        obtain ⟨q, z, hq, rfl, rfl, hbq, hown⟩ := hrel
        have HO := Lib.hid (And.intro hbq hown)
        have hszq := hbq.size
        clear hbq hown
        by_cases hqu : q < u
        · obtain ⟨g, hg⟩ : ∃ g, r[q]? = some g := ⟨_, List.getElem?_eq_getElem (by rw [← HR2.out.2.1]; exact hqu)⟩
          have hbw := HA.out.2.2.1.trans (HO.out.1.mono (by omega))
          have hR := (HR2.out.2.2.1.below hbw hb2') q g.cells (by show (r.map Gl.cells)[q]? = _; rw [List.getElem?_map, hg]; rfl)
          have hlt2 : b2 < wr.heap.size := Nat.lt_of_lt_of_le hb2' hbw.size
          have c0 : wr.cell? ⟨b2, off2 + q * 4, none⟩ = some (.int .i64 g.k) := hR.2 0 _ rfl
          have c1 : wr.cell? ⟨b2, off2 + q * 4 + 1, none⟩ = some (.float .f64 g.x) := hR.2 1 _ rfl
          have c2 : wr.cell? ⟨b2, off2 + q * 4 + 2, none⟩ = some (.string g.s) := hR.2 2 _ rfl
          have c3 : wr.cell? ⟨b2, off2 + q * 4 + 3, none⟩ = some (.slice none 0 0) := hR.2 3 _ rfl
          have HG := Lib.hid hg
          clear hg hR hbw
          go_wp2_with fail
          refine (out_flat g.k g.x g.s _).mono ?_
          rintro e w1 ⟨rfl, hb1⟩
          have hb01 : Below wr.heap.size wr w1 := ((Below.refl _ _).alloc (Nat.le_refl _) _).trans (hb1.mono (by simp))
          have hown1 : Owns w1 wo.heap.size 39 4 z (gls (r.take q)) := HO.out.2.below hb01
          have hz1 := hb01.size
          have hlk : (gls (r.take q)).length ≤ 1000000 := by unfold gls; rw [List.length_map, List.length_take]; omega
          clear hb1 c0 c1 c2 c3
          go_wp2_with (at_builtin; refine wpList_append_box w1 rfl (.tmp 29) (.tmp 32) 41 rfl wo.heap.size 39 _ 4 56 Tryz.underlying41 infoI rfl (by decide) z (gls (r.take q)) (by rfl) (by exact hown1) #[.int .i64 g.k, .float .f64 g.x, .string g.s, .slice none 0 0] rfl 1 _ (by rfl) (by simp) (by exact Vg.one (⟨g, none, 0, 0⟩ : Vg)) hlk (by decide) (by omega) ?_; intro v' w2 hown2 hg2 hat2 hbe2)
          have HB := Lib.hid (And.intro hown2 ((HO.out.1.trans (hb01.mono hszq)).trans hbe2))
          clear hown2 hg2 hat2 hbe2
          go_roundw
          case rel => exact ⟨q + 1, _, by omega, by go_num, rfl, HB.out.2, by rw [gls_snoc r q g HG.out]; exact HB.out.1⟩
          case measure => simp [intOf]; omega
        · obtain rfl : q = u := by omega
          have hrow1 : RowIs 4 wr (New wo.heap.size wr) z (gls r) := by
            have := HO.out.2
            rw [List.take_of_length_le (by rw [HR2.out.2.1]; exact Nat.le_refl _)] at this
            refine this.rowIs ?_
            intro h
            exact HR2.out.2.2.2 h
          obtain ⟨h0, g5, off5, c5, rfl, hS5, hrow5⟩ := hrow1
          have hle : (gls r).length = q := by unfold gls; rw [List.length_map, ← HR2.out.2.1]
          rw [hle]
          have HR5 : Hid (RowIs 4 wr (New wo.heap.size wr) (.slice (some ⟨g5, off5, none⟩) q c5) (gls r)) := Lib.hid ⟨h0, g5, off5, c5, by rw [hle], hS5, hrow5⟩
          have hown1 : Owns wr (w.heap.size + 3) 41 1 y (H.map (KRow 4).cells) := (HA.out.2.2.2.below HO.out.1).1
          have hlk2 : (H.map (KRow 4).cells).length ≤ 1000000 := by rw [List.length_map, HA.out.2.2.2.len, List.length_map, List.length_take]; omega
          have hblk2 := HA.out.2.1.below HO.out.1 HA.out.2.1.lt
          have y3 : wr.cell? ⟨w.heap.size + 1 + 1, 3, none⟩ = some y := hblk2.cell 3
          have hl2 : w.heap.size + 1 + 1 < wr.heap.size := hblk2.lt
          clear h0 hS5 hrow5 hle hblk2
          have hZz := HA.out.1
          have hZp : ∀ w2, Below (w.heap.size + 3) wo w2 → Zero4 w2 (w.heap.size + 1) := by
            intro w2 hp
            obtain ⟨z1, z2, z3, z4, z5, z6⟩ := hZz
            have hs := hp.size
            exact ⟨by omega, (hp.cell (p := ⟨w.heap.size + 1, 0, none⟩) (by show w.heap.size + 1 < _; omega)).trans z2, (hp.cell (p := ⟨w.heap.size + 1, 1, none⟩) (by show w.heap.size + 1 < _; omega)).trans z3, (hp.cell (p := ⟨w.heap.size + 1, 2, none⟩) (by show w.heap.size + 1 < _; omega)).trans z4, (hp.cell (p := ⟨w.heap.size + 1, 3, none⟩) (by show w.heap.size + 1 < _; omega)).trans z5, fun o => (hp.frozen (p := ⟨w.heap.size + 1, o, none⟩) (by show w.heap.size + 1 < _; omega)).trans (z6 o)⟩
          have HZP := Lib.hid hZp
          clear hZp hZz
          go_wp2_with (at_builtin; refine wpList_append_box wr rfl (.tmp 36) (.tmp 38) 37 rfl (w.heap.size + 3) 41 _ 1 24 Tryz.underlying37 infoIs2 rfl (by decide) y (H.map (KRow 4).cells) (by rfl) (by exact hown1) #[.slice (some ⟨g5, off5, none⟩) q c5] rfl 1 _ (by rfl) (by simp) (by exact one_slice _ _ _) hlk2 (by decide) (by omega) ?_; intro v' w2 hown2 hg2 hat2 hbe2
                       obtain ⟨gg, capg, hvv, _, _, _, _, _⟩ := hown2.row (by simp)
                       obtain ⟨ln, hln⟩ : ∃ ln, v' = .slice (some ⟨gg, 0, none⟩) ln capg := ⟨_, hvv⟩
                       clear hvv
                       subst hln
                       have hpush := HA.out.2.2.2.push (K := KRow 4) (g := .slice (some ⟨g5, off5, none⟩) q c5) (m := gls r) (by omega) HO.out.1 HR5.out hown2 hg2 (hat2.elim .inl fun h => .inr ⟨_, h, by simp⟩)
                       have hB2 : Blk w2 (w.heap.size + 2) 39 #[.int .i64 5, .float .f64 0, .string ⟨#[]⟩, y] := Blk.below HA.out.2.1 hpush.2 (by omega)
                       have HPU := Lib.hid (And.intro hpush (And.intro hB2 (HZP.out w2 hpush.2)))
                       have y4 : w2.cell? ⟨w.heap.size + 1 + 1, 3, none⟩ = some y := hB2.cell 3
                       have y5 : w2.frozen? ⟨w.heap.size + 1 + 1, 3, none⟩ = false := hB2.free 3
                       clear hpush hown2 hg2 hat2 hbe2 hB2 y3)
          go_roundw
          case rel =>
            refine ⟨k + 1, _, by omega, by go_num, H ++ [.slice (some ⟨g5, off5, none⟩) q c5], ?_, HPU.out.2.1.put 3 _, (HA.out.2.2.1.trans (HPU.out.1.2.mono (by omega))).setCell (by show w.heap.size ≤ w.heap.size + 1 + 1; omega) _, ?_, ?_⟩
            · obtain ⟨z1, z2, z3, z4, z5, z6⟩ := HPU.out.2.2
              refine ⟨by rw [size_setCell]; exact z1, ?_, ?_, ?_, ?_, ?_⟩
              all_goals first | (rw [World.cell?_setCell_other _ _ _ _ (by intro h; injection h with h; omega)]; assumption) | (intro o; simp [z6 o]) | (simp [go_sem, *]; done)
            · rw [size_setCell]; have := HPU.out.1.2.size; omega
            · rw [List.take_add_one, HR2.out.1]
              simp only [Option.toList, List.map_append, List.map_cons, List.map_nil]
              exact HPU.out.1.1.far (by show w.heap.size + 1 + 1 < _; omega) _
          case measure => simp [intOf]; omega
    · obtain rfl : k = n := by omega
      have hm := HA.out.2.2.2
      rw [List.take_of_length_le (by rw [HM.out.1]; exact Nat.le_refl _)] at hm
      obtain ⟨g, cap, rfl, hg, hrs⟩ := rows_out hm (by intro h; exact HM.out.2.2 (by simpa using h))
      have hle : (rows.map gls).length = k := by rw [List.length_map, HM.out.1]
      rw [hle] at hrs y3 HA
      obtain ⟨q, q0, q1, q2, q3, qf⟩ := HA.out.1
      have p0 : wr.cell? ⟨w.heap.size + 1 + 1, 0, none⟩ = some (.int .i64 5) := HA.out.2.1.cell 0
      have p1 : wr.cell? ⟨w.heap.size + 1 + 1, 1, none⟩ = some (.float .f64 0) := HA.out.2.1.cell 1
      have p2 : wr.cell? ⟨w.heap.size + 1 + 1, 2, none⟩ = some (.string ⟨#[]⟩) := HA.out.2.1.cell 2
      have HS := Lib.hid (And.intro hrs HA.out.2.2.1)
      clear hm hrs hle hg
      go_wp2
      exact bodyPost_ret (v := (.agg #[.int .i64 5, .float .f64 0, .string ⟨#[]⟩, .slice (some ⟨g, 0, none⟩) k cap])) (by simp [results, Tryz.results17, go_sem, q, q0, q1, q2, q3, qf, p0, p1, p2, y3]) rfl ⟨g, cap, rfl, (HS.out.1.keep (((((Keep.refl _ _).set (by intro q hq; have h := hq.1; show q ≠ w.heap.size + 1; omega) _).set (by intro q hq; have h := hq.1; show q ≠ w.heap.size + 1; omega) _).set (by intro q hq; have h := hq.1; show q ≠ w.heap.size + 1; omega) _).set (by intro q hq; have h := hq.1; show q ≠ w.heap.size + 1; omega) _)).more (by intro q hq; have h := hq.1; exact ⟨by omega, by simp only [size_setCell]; exact hq.2⟩), ((((HS.out.2.setCell (by show w.heap.size ≤ w.heap.size + 1; omega) _).setCell (by show w.heap.size ≤ w.heap.size + 1; omega) _).setCell (by show w.heap.size ≤ w.heap.size + 1; omega) _).setCell (by show w.heap.size ≤ w.heap.size + 1; omega) _)⟩

end Go.Proofs.YtdpkjhohklfieaaGreat
