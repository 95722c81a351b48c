/- The reference's transpose. -/
import Derived.Test.YtdpkjhohklfieaaGreatSh
set_option linter.unusedSimpArgs false
set_option linter.unusedVariables false
namespace Go.Proofs.YtdpkjhohklfieaaGreat
open Go.RowKit
set_option maxRecDepth 100000
set_option maxHeartbeats 1000000

def colOf (rows : List (List Fv)) (j : Nat) : List Fv := rows.map fun r => r.getD j ⟨0, 0, 0, ⟨#[]⟩⟩
def trs (rows : List (List Fv)) (k : Nat) : List (List Fv) := (List.range k).map (colOf rows)
theorem trs_snoc (rows : List (List Fv)) (k : Nat) : trs rows (k + 1) = trs rows k ++ [colOf rows k] := by unfold trs; rw [List.range_succ, List.map_append]; rfl
theorem infoVs2 : ((Tryz.prog.info? 29)).map (fun i => (i.zero, i.size, i.bytes)) = some (some (.slice none 0 0), 1, 24) := by kernel_rfl
def TrO (W wr : World) (y : Value) (rows : List (List Fv)) (k : Nat) : Prop := ∃ H : List Value, Below W.heap.size W wr ∧ (KRow 5).Many wr W.heap.size 29 1 y H ((trs rows k).map fvs)
def TrI (wo wq : World) (z : Value) (rows : List (List Fv)) (j q : Nat) : Prop := Below wo.heap.size wo wq ∧ Owns wq wo.heap.size 27 5 z (fvs ((colOf rows j).take q))

theorem hrs3 {w w' : World} {B : Nat} {A : Option Addr} {m : Nat} {rows : List (List (List Value))} (h : RowsIs 5 w (New B w) A m rows) (hb : Below w.heap.size w w') : RowsIs 5 w' (New B w') A m rows :=
  (h.keep (Keep.below hb fun _ hq => hq.2)).more fun q hq => ⟨hq.1, Nat.lt_of_lt_of_le hq.2 hb.size⟩

set_option maxHeartbeats 8000000 in
theorem transpose_any (b off c m c1 : Nat) (A : Option Addr) (r : List Fv) (rs : List (List Fv)) (R C : Nat) (w : World) (h : ArgsIn w b off [⟨⟨5, 0, 0, ⟨#[]⟩⟩, A, m, c1⟩] [mat (r :: rs)]) (hm : m = R) (hR : R = (r :: rs).length) (hC0 : 0 < C) (hC : ∀ x ∈ r :: rs, x.length = C) (hR1 : R ≤ 1000) (hC1 : C ≤ 1000) :
    Calls Tryz.prog 80 #[.slice (some ⟨b, off, none⟩) 1 c] w fun e w' => ∃ g cap, e = .returned (.agg #[.int .i64 5, .int .i64 0, .int .i64 0, .string ⟨#[]⟩, .slice (some ⟨g, 0, none⟩) C cap]) ∧ RowsIs 5 w' (New w.heap.size w') (some ⟨g, 0, none⟩) C ((trs (r :: rs) C).map fvs) ∧ Below w.heap.size w w' := by
  have Z0 := Lib.hid (Zero5.new w)
  have hbA : Below w.heap.size w (w.alloc (.cells #[.int .i64 0, .int .i64 0, .int .i64 0, .string ⟨#[]⟩, .slice none 0 0] 27)) := (Below.refl _ _).alloc (Nat.le_refl _) _
  have ha := h.below hbA
  obtain ⟨hblt, c0, c1', c2, c3, c4, hv, hok⟩ := one_range ha
  have hrw : RowsIs 5 (w.alloc (.cells #[.int .i64 0, .int .i64 0, .int .i64 0, .string ⟨#[]⟩, .slice none 0 0] 27)) (· < (w.alloc (.cells #[.int .i64 0, .int .i64 0, .int .i64 0, .string ⟨#[]⟩, .slice none 0 0] 27)).heap.size) A m ((r :: rs).map fvs) := by
    obtain ⟨_, ⟨hk, _⟩ | ⟨_, hh⟩⟩ := hv
    · exact absurd rfl hk
    · exact hh
  have hr0 : RowsIs 5 w (· < w.heap.size) A m ((r :: rs).map fvs) := by
    obtain ⟨_, ⟨hk, _⟩ | ⟨_, hh⟩⟩ := h.2.2.1.2 0 _ _ rfl rfl
    · exact absurd rfl hk
    · exact hh
  have HS := Lib.hid (shape_any A m c1 r rs _ hrw)
  rw [hC r (List.mem_cons_self ..)] at HS
  subst hm
  have HA := Lib.hid (And.intro h (And.intro hbA (And.intro hR hC)))
  obtain ⟨-, -, ba, offa, rfl, hba, hrow⟩ := hr0
  have HROW := Lib.hid hrow
  have hbw0 : b < w.heap.size := h.1
  have hba' : ba < w.heap.size := hba
  clear hrw ha h hv hok hbA hrow hba hR hC
  go_enter Tryz.func80, Tryz.ntmps80
  go_wp2_with fail
  refine HS.out.mono ?_
  rintro e w1 ⟨rfl, hb1⟩
  have hbw1 := HA.out.2.1.trans (hb1.mono HA.out.2.1.size)
  have Z1 := Lib.hid (Z0.out.below hb1)
  have HB1 := Lib.hid hbw1
  have hz1 := hbw1.size
  clear c0 c1' c2 c3 c4 hblt HS hb1 hbw1
  go_wp2_with fail
  go_loopw [5, 6] (fun v i wr => ∃ (k : Nat) (y : Value), k ≤ C ∧ i = .int .i64 k ∧ y = v ∧ TrO w1 wr y (r :: rs) k) (fun _ i _ => C - (intOf i).toNat)
  case atStart => exact ⟨0, _, Nat.zero_le _, rfl, rfl, [], Below.refl _ _, Kind.Many.nil _ _ _ _⟩
  case round =>
    obtain ⟨k, y, hk, rfl, rfl, H, hbe, hmany⟩ := hrel
    have HO := Lib.hid (And.intro hbe hmany)
    have hsz := hbe.size
    clear hbe hmany
    by_cases hlt : k < C
    · go_wp2_with fail
      obtain ⟨wo, rfl⟩ : ∃ wo : World, wo = wr := ⟨_, rfl⟩
      go_loopw [7, 8] (fun v i wq => ∃ (q : Nat) (z : Value), q ≤ m ∧ i = .int .i64 q ∧ z = v ∧ TrI wo wq z (r :: rs) k q) (fun _ i _ => m - (intOf i).toNat)
      case atStart => exact ⟨0, _, Nat.zero_le _, rfl, rfl, Below.refl _ _, Owns.nil_ _ _ _ _⟩
      case round =>
        obtain ⟨q, z, hq, rfl, rfl, hbq, hown⟩ := hrel
        have HI := Lib.hid (And.intro hbq hown)
        have hszq := hbq.size
        clear hbq hown
        by_cases hqm : q < m
        · obtain ⟨rw, hrw⟩ : ∃ rw, (r :: rs)[q]? = some rw := ⟨_, List.getElem?_eq_getElem (by rw [← HA.out.2.2.1]; exact hqm)⟩
          have hrl : rw.length = C := HA.out.2.2.2 rw (List.mem_of_getElem? hrw)
          obtain ⟨x, hx⟩ : ∃ x, rw[k]? = some x := ⟨_, List.getElem?_eq_getElem (by rw [hrl]; exact hlt)⟩
          have hbw := HB1.out.trans ((HO.out.1.trans (HI.out.1.mono hsz)).mono hz1)
          obtain ⟨hd, h1, -, b5, off5, c5, rfl, hb5, hrow5⟩ := HROW.out q (fvs rw) (by rw [List.getElem?_map, hrw]; rfl)
          rw [show (fvs rw).length = C by rw [← hrl]; exact List.length_map _] at h1
          have hrg := one_range (HA.out.1.below hbw)
          obtain ⟨hblt, e0, e1, e2, e3, e4, -, -⟩ := hrg
          have h1r := (hbw.cell (p := ⟨ba, offa + q, none⟩) hba').trans h1
          have hRx := (hrow5.below hbw hb5) k x.cells (by show (rw.map Fv.cells)[k]? = _; rw [List.getElem?_map, hx]; rfl)
          have d0 : wr.cell? ⟨b5, off5 + k * 5, none⟩ = some (.int .i64 x.k) := hRx.2 0 _ rfl
          have d1 : wr.cell? ⟨b5, off5 + k * 5 + 1, none⟩ = some (.int .i64 x.n) := hRx.2 1 _ rfl
          have d2 : wr.cell? ⟨b5, off5 + k * 5 + 2, none⟩ = some (.int .i64 x.d) := hRx.2 2 _ rfl
          have d3 : wr.cell? ⟨b5, off5 + k * 5 + 3, none⟩ = some (.string x.s) := hRx.2 3 _ rfl
          have d4 : wr.cell? ⟨b5, off5 + k * 5 + 4, none⟩ = some (.slice none 0 0) := hRx.2 4 _ rfl
          have hcol : (colOf (r :: rs) k)[q]? = some x := by
            unfold colOf
            rw [List.getElem?_map, hrw]
            show some (rw.getD k _) = some x
            rw [List.getD_eq_getElem?_getD, hx]; rfl
          have HCOL := Lib.hid hcol
          have hown1 : Owns wr wo.heap.size 27 5 z (fvs ((colOf (r :: rs) k).take q)) := HI.out.2
          have hlk : (fvs ((colOf (r :: rs) k).take q)).length ≤ 1000000 := by unfold fvs; rw [List.length_map, List.length_take]; omega
          clear hrw hrl hx hbw h1 hRx hrow5 hcol hb5
          go_wp2_with (at_builtin; refine wpList_append_box wr rfl (.tmp 37) (.tmp 48) 29 rfl wo.heap.size 27 _ 5 64 Tryz.underlying29 infoV rfl (by decide) z (fvs ((colOf (r :: rs) k).take q)) (by rfl) (by exact hown1) #[.int .i64 x.k, .int .i64 x.n, .int .i64 x.d, .string x.s, .slice none 0 0] rfl 1 _ (by rfl) (by simp) (by exact x.one) hlk (by decide) (by omega) ?_; intro v' w2 hown2 hg2 hat2 hbe2)
          have HB := Lib.hid (And.intro hown2 (HI.out.1.trans hbe2))
          clear hown2 hg2 hat2 hbe2
          go_roundw
          case rel => exact ⟨q + 1, _, by omega, by go_num, rfl, HB.out.2, by rw [List.take_add_one, HCOL.out]; unfold fvs; rw [List.map_append]; exact HB.out.1⟩
          case measure => simp [intOf]; omega
        · obtain rfl : q = m := by omega
          have hcl : (colOf (r :: rs) k).length = q := by unfold colOf; rw [List.length_map, ← HA.out.2.2.1]
          have hrow1 : RowIs 5 wr (New wo.heap.size wr) z (fvs (colOf (r :: rs) k)) := by
            have := HI.out.2
            rw [List.take_of_length_le (by rw [hcl]; exact Nat.le_refl _)] at this
            exact this.rowIs (by simp [fvs, colOf])
          obtain ⟨h0, g5, off5, c5, rfl, hS5, hrow5⟩ := hrow1
          have hle : (fvs (colOf (r :: rs) k)).length = q := by unfold fvs; rw [List.length_map, hcl]
          rw [hle]
          have HR5 : Hid (RowIs 5 wr (New wo.heap.size wr) (.slice (some ⟨g5, off5, none⟩) q c5) (fvs (colOf (r :: rs) k))) := Lib.hid ⟨h0, g5, off5, c5, by rw [hle], hS5, hrow5⟩
          have hown1 : Owns wr w1.heap.size 29 1 y (H.map (KRow 5).cells) := (HO.out.2.below HI.out.1).1
          have hlk2 : (H.map (KRow 5).cells).length ≤ 1000000 := by rw [List.length_map, HO.out.2.len, List.length_map]; unfold trs; rw [List.length_map, List.length_range]; omega
          clear h0 hS5 hrow5 hle hcl
          go_wp2_with (at_builtin; refine wpList_append_box wr rfl (.tmp 50) (.tmp 52) 25 rfl w1.heap.size 29 _ 1 24 Tryz.underlying25 infoVs2 rfl (by decide) y (H.map (KRow 5).cells) (by rfl) (by exact hown1) #[.slice (some ⟨g5, off5, none⟩) q c5] rfl 1 _ (by rfl) (by simp) (by exact one_slice _ _ _) hlk2 (by decide) (by omega) ?_; intro v' w2 hown2 hg2 hat2 hbe2)
          have hpush := HO.out.2.push (K := KRow 5) (g := .slice (some ⟨g5, off5, none⟩) q c5) (m := fvs (colOf (r :: rs) k)) (by omega) HI.out.1 HR5.out hown2 hg2 (hat2.elim .inl fun h => .inr ⟨_, h, by simp⟩)
          have HPU := Lib.hid hpush
          clear hpush hown2 hg2 hat2 hbe2
          go_roundw
          case rel => exact ⟨k + 1, _, by omega, by go_num, rfl, H ++ [.slice (some ⟨g5, off5, none⟩) q c5], HO.out.1.trans HPU.out.2, by rw [trs_snoc, List.map_append]; exact HPU.out.1⟩
          case measure => simp [intOf]; omega
    · obtain rfl : k = C := by omega
      have htl : (trs (r :: rs) k).length = k := by unfold trs; rw [List.length_map, List.length_range]
      obtain ⟨g, cap, rfl, hg, hrs⟩ := rows_out HO.out.2 (by intro h; have : (trs (r :: rs) k).length = 0 := by rw [List.length_eq_zero_iff]; simpa using h
                                                             rw [htl] at this; omega)
      have hle : ((trs (r :: rs) k).map fvs).length = k := by rw [List.length_map, htl]
      rw [hle] at hrs ⊢
      have HS := Lib.hid (And.intro hrs (HB1.out.trans (HO.out.1.mono hz1)))
      have Z2 := Lib.hid (Z1.out.below HO.out.1)
      clear hrs hle hg htl
      go_wp2_with fail
      refine (table_any _ _ _ _).mono ?_
      rintro e w3 ⟨rfl, hb3⟩
      obtain ⟨z, q0, q1, q2, q3, q4, qf⟩ := Z2.out.below hb3
      have hbw3 := HS.out.2.trans (hb3.mono HS.out.2.size)
      have HS3 := Lib.hid (hrs3 HS.out.1 hb3)
      have hz0 : w.heap.size < w1.heap.size := Z1.out.1
      clear hb3
      go_wp2
      exact bodyPost_ret (v := (.agg #[.int .i64 5, .int .i64 0, .int .i64 0, .string ⟨#[]⟩, .slice (some ⟨g, 0, none⟩) k cap])) (by simp [results, Tryz.results80, go_sem, z, q0, q1, q2, q3, q4, qf]) rfl ⟨g, cap, rfl, (HS3.out.keep ((((((Keep.refl _ _).set (by intro q hq; have h := hq.1; show q ≠ w.heap.size; omega) _).set (by intro q hq; have h := hq.1; show q ≠ w.heap.size; omega) _).set (by intro q hq; have h := hq.1; show q ≠ w.heap.size; omega) _).set (by intro q hq; have h := hq.1; show q ≠ w.heap.size; omega) _).set (by intro q hq; have h := hq.1; show q ≠ w.heap.size; omega) _)).more (by intro q hq; have h := hq.1; exact ⟨by omega, by simp only [size_setCell]; exact hq.2⟩), below5 hbw3 (Nat.le_refl _)⟩

end Go.Proofs.YtdpkjhohklfieaaGreat
