/- MMULT: XAm, XMp, XTd, XNu. Put together by merge.py. -/
import Derived.Test.YtdpkjhohklfieaaGreatTc
import Derived.Deep.RegionHeld3
import Derived.StillTailTactics
import Derived.Test.YtdpkjhohklfieaaGreatFx
set_option linter.unusedSimpArgs false
set_option linter.unusedVariables false
namespace Go.Proofs.YtdpkjhohklfieaaGreat

/- Add and Mul of the reference at whole numbers; the product of matrices of whole numbers, plainly. -/
section
open Go.RowKit
set_option maxRecDepth 100000
set_option maxHeartbeats 1000000

/-- A whole number as the reference has it, or nothing. -/
def numV : Option Int → Fv
  | some n => ⟨1, n, 1, ⟨#[]⟩⟩
  | none => ⟨6, 0, 0, ⟨#[]⟩⟩
def capI (n : Int) : Option Int := if n.natAbs ≤ 99999999999 then some n else none
def mulI (a b : Int) : Option Int := if a.natAbs ≤ 16777216 ∧ b.natAbs ≤ 16777216 then capI (a * b) else none
def addI : Option Int → Option Int → Option Int
  | some a, some b => capI (a + b)
  | _, _ => none
def NumIs (o : Option Int) (w : World) (e : Ending) (w' : World) : Prop := e = .returned (.agg #[.int .i64 (numV o).k, .int .i64 (numV o).n, .int .i64 (numV o).d, .string (numV o).s, .slice none 0 0]) ∧ Below w.heap.size w w'

theorem red_whole (n : Int) : red 4 (n * 16) 16 = (n, 1) := by
  rw [red, if_pos ⟨by decide, by omega⟩, show n * 16 / 2 = n * 8 by omega, show (16 : Int) / 2 = 8 by decide]
  rw [red, if_pos ⟨by decide, by omega⟩, show n * 8 / 2 = n * 4 by omega, show (8 : Int) / 2 = 4 by decide]
  rw [red, if_pos ⟨by decide, by omega⟩, show n * 4 / 2 = n * 2 by omega, show (4 : Int) / 2 = 2 by decide]
  rw [red, if_pos ⟨by decide, by omega⟩, show n * 2 / 2 = n by omega, show (2 : Int) / 2 = 1 by decide]
  rw [red]
theorem frac_one (n : Int) (h : n.natAbs ≤ 1125899906842624) : frac n 1 = (capI n).map fun n => (n, 1) := by
  unfold frac capI
  rw [if_neg (by rintro (h | h | h); omega; omega; exact h (Int.tmod_one _)), Int.tdiv_one, red_whole]
  simp only
  by_cases hn : n.natAbs ≤ 99999999999
  · rw [if_neg (by omega), if_pos hn]; rfl
  · rw [if_pos (by omega), if_neg hn]; rfl
theorem frac_sixteen (n : Int) (h : n.natAbs ≤ 999999999999) : frac (n * 16) 16 = (capI n).map fun n => (n, 1) := by
  unfold frac capI
  rw [if_neg (by rintro (h | h | h); omega; omega; exact h (Int.mul_tmod_left _ _)), Int.mul_tdiv_cancel _ (by decide), red_whole]
  simp only
  by_cases hn : n.natAbs ≤ 99999999999
  · rw [if_neg (by omega), if_pos hn]; rfl
  · rw [if_pos (by omega), if_neg hn]; rfl
theorem FracPost.num {n d : Int} {o : Option Int} {w : World} {e : Ending} {w' : World} (h : FracPost n d w e w') (ho : frac n d = o.map fun n => (n, 1)) : NumIs o w e w' := by
  obtain ⟨h, hb⟩ := h
  rw [ho] at h
  cases o with
  | none => exact ⟨h, hb⟩
  | some n => exact ⟨h, hb⟩

theorem mul_nat {a b : Int} (ha : a.natAbs ≤ 16777216) (hb : b.natAbs ≤ 16777216) : (a * b).natAbs ≤ 281474976710656 := by
  rw [Int.natAbs_mul]
  exact Nat.le_trans (Nat.mul_le_mul ha hb) (by decide)

set_option maxHeartbeats 4000000 in
theorem mul_any (a b : Int) (w : World) (ha : a.natAbs ≤ 99999999999) (hb : b.natAbs ≤ 99999999999) :
    Calls Tryz.prog 156 #[(.agg #[.int .i64 1, .int .i64 a, .int .i64 1, .string ⟨#[]⟩, .slice none 0 0]), (.agg #[.int .i64 1, .int .i64 b, .int .i64 1, .string ⟨#[]⟩, .slice none 0 0])] w (NumIs (mulI a b) w) := by
  have hbA : Below w.heap.size w (((w.alloc (.cells #[.int .i64 1, .int .i64 a, .int .i64 1, .string ⟨#[]⟩, .slice none 0 0] 27)).alloc (.cells #[.int .i64 1, .int .i64 b, .int .i64 1, .string ⟨#[]⟩, .slice none 0 0] 27)).alloc (.cells #[.int .i64 0, .int .i64 0, .int .i64 0, .string ⟨#[]⟩, .slice none 0 0] 27)) := (((Below.refl _ _).alloc (Nat.le_refl _) _).alloc (by simp) _).alloc (by simp; omega) _
  have z0 : Zero5 (((w.alloc (.cells #[.int .i64 1, .int .i64 a, .int .i64 1, .string ⟨#[]⟩, .slice none 0 0] 27)).alloc (.cells #[.int .i64 1, .int .i64 b, .int .i64 1, .string ⟨#[]⟩, .slice none 0 0] 27)).alloc (.cells #[.int .i64 0, .int .i64 0, .int .i64 0, .string ⟨#[]⟩, .slice none 0 0] 27)) (w.heap.size + 2) := by
    have := Zero5.new ((w.alloc (.cells #[.int .i64 1, .int .i64 a, .int .i64 1, .string ⟨#[]⟩, .slice none 0 0] 27)).alloc (.cells #[.int .i64 1, .int .i64 b, .int .i64 1, .string ⟨#[]⟩, .slice none 0 0] 27))
    simpa using this
  have HZ := Lib.hid (And.intro z0 hbA)
  have HAB := Lib.hid (And.intro ha hb)
  clear z0 hbA
  by_cases h1 : a.natAbs ≤ 16777216
  · have g1 : ¬ 16777216 < max a (-a) := by omega
    by_cases h2 : b.natAbs ≤ 16777216
    · have g2 : ¬ 16777216 < max b (-b) := by omega
      have hp := mul_nat h1 h2
      have hp1 : -281474976710656 ≤ a * b := by omega
      have hp2 : a * b ≤ 281474976710656 := by omega
      have HF := Lib.hid (frac_any (a * b) 1 (((w.alloc (.cells #[.int .i64 1, .int .i64 a, .int .i64 1, .string ⟨#[]⟩, .slice none 0 0] 27)).alloc (.cells #[.int .i64 1, .int .i64 b, .int .i64 1, .string ⟨#[]⟩, .slice none 0 0] 27)).alloc (.cells #[.int .i64 0, .int .i64 0, .int .i64 0, .string ⟨#[]⟩, .slice none 0 0] 27)) (by decide) (by decide))
      have HO := Lib.hid (frac_one (a * b) (by omega))
      have HM := Lib.hid (show mulI a b = capI (a * b) by unfold mulI; rw [if_pos ⟨h1, h2⟩])
      clear hp h1 h2
      go_enter Tryz.func156, Tryz.ntmps156
      go_wp2_with fail
      refine (abs_any a _ (by have := HAB.out; omega) (by have := HAB.out; omega)).mono ?_
      rintro e v1 ⟨rfl, rfl⟩
      go_wp2_with fail
      refine (abs_any b _ (by have := HAB.out; omega) (by have := HAB.out; omega)).mono ?_
      rintro e v1 ⟨rfl, rfl⟩
      go_wp2_with fail
      refine HF.out.mono ?_
      intro e w1 hq
      obtain ⟨rfl, hb1⟩ := hq.num HO.out
      obtain ⟨q, q0, q1, q2, q3, q4, qf⟩ := HZ.out.1.below hb1
      have hbw := HZ.out.2.trans (hb1.mono HZ.out.2.size)
      have HB := Lib.hid hbw
      clear hb1 hq hbw
      go_wp2
      exact bodyPost_ret (v := (.agg #[.int .i64 (numV (capI (a * b))).k, .int .i64 (numV (capI (a * b))).n, .int .i64 (numV (capI (a * b))).d, .string (numV (capI (a * b))).s, .slice none 0 0])) (by simp [results, Tryz.results156, go_sem, q, q0, q1, q2, q3, q4, qf]) rfl (by rw [HM.out]; exact ⟨rfl, below5 HB.out (by omega)⟩)
    · have g2 : 16777216 < max b (-b) := by omega
      have HM := Lib.hid (show mulI a b = none by unfold mulI; rw [if_neg (fun h => h2 h.2)])
      clear h1 h2
      go_enter Tryz.func156, Tryz.ntmps156
      go_wp2_with fail
      refine (abs_any a _ (by have := HAB.out; omega) (by have := HAB.out; omega)).mono ?_
      rintro e v1 ⟨rfl, rfl⟩
      go_wp2_with fail
      refine (abs_any b _ (by have := HAB.out; omega) (by have := HAB.out; omega)).mono ?_
      rintro e v1 ⟨rfl, rfl⟩
      go_wp2_with fail
      refine (doubt_any _).mono ?_
      rintro e w1 ⟨rfl, hb1⟩
      obtain ⟨q, q0, q1, q2, q3, q4, qf⟩ := HZ.out.1.below hb1
      have hbw := HZ.out.2.trans (hb1.mono HZ.out.2.size)
      have HB := Lib.hid hbw
      clear hb1 hbw
      go_wp2
      exact bodyPost_ret (v := (.agg #[.int .i64 6, .int .i64 0, .int .i64 0, .string ⟨#[]⟩, .slice none 0 0])) (by simp [results, Tryz.results156, go_sem, q, q0, q1, q2, q3, q4, qf]) rfl (by rw [HM.out]; exact ⟨rfl, below5 HB.out (by omega)⟩)
  · have g1 : 16777216 < max a (-a) := by omega
    have HM := Lib.hid (show mulI a b = none by unfold mulI; rw [if_neg (fun h => h1 h.1)])
    clear h1
    go_enter Tryz.func156, Tryz.ntmps156
    go_wp2_with fail
    refine (abs_any a _ (by have := HAB.out; omega) (by have := HAB.out; omega)).mono ?_
    rintro e v1 ⟨rfl, rfl⟩
    go_wp2_with fail
    refine (doubt_any _).mono ?_
    rintro e w1 ⟨rfl, hb1⟩
    obtain ⟨q, q0, q1, q2, q3, q4, qf⟩ := HZ.out.1.below hb1
    have hbw := HZ.out.2.trans (hb1.mono HZ.out.2.size)
    have HB := Lib.hid hbw
    clear hb1 hbw
    go_wp2
    exact bodyPost_ret (v := (.agg #[.int .i64 6, .int .i64 0, .int .i64 0, .string ⟨#[]⟩, .slice none 0 0])) (by simp [results, Tryz.results156, go_sem, q, q0, q1, q2, q3, q4, qf]) rfl (by rw [HM.out]; exact ⟨rfl, below5 HB.out (by omega)⟩)

set_option maxHeartbeats 4000000 in
theorem add_some (a b : Int) (w : World) (ha : a.natAbs ≤ 99999999999) (hb : b.natAbs ≤ 99999999999) :
    Calls Tryz.prog 155 #[(.agg #[.int .i64 1, .int .i64 a, .int .i64 1, .string ⟨#[]⟩, .slice none 0 0]), (.agg #[.int .i64 1, .int .i64 b, .int .i64 1, .string ⟨#[]⟩, .slice none 0 0])] w (NumIs (capI (a + b)) w) := by
  have hbA : Below w.heap.size w (((w.alloc (.cells #[.int .i64 1, .int .i64 a, .int .i64 1, .string ⟨#[]⟩, .slice none 0 0] 27)).alloc (.cells #[.int .i64 1, .int .i64 b, .int .i64 1, .string ⟨#[]⟩, .slice none 0 0] 27)).alloc (.cells #[.int .i64 0, .int .i64 0, .int .i64 0, .string ⟨#[]⟩, .slice none 0 0] 27)) := (((Below.refl _ _).alloc (Nat.le_refl _) _).alloc (by simp) _).alloc (by simp; omega) _
  have z0 : Zero5 (((w.alloc (.cells #[.int .i64 1, .int .i64 a, .int .i64 1, .string ⟨#[]⟩, .slice none 0 0] 27)).alloc (.cells #[.int .i64 1, .int .i64 b, .int .i64 1, .string ⟨#[]⟩, .slice none 0 0] 27)).alloc (.cells #[.int .i64 0, .int .i64 0, .int .i64 0, .string ⟨#[]⟩, .slice none 0 0] 27)) (w.heap.size + 2) := by
    have := Zero5.new ((w.alloc (.cells #[.int .i64 1, .int .i64 a, .int .i64 1, .string ⟨#[]⟩, .slice none 0 0] 27)).alloc (.cells #[.int .i64 1, .int .i64 b, .int .i64 1, .string ⟨#[]⟩, .slice none 0 0] 27))
    simpa using this
  have HZ := Lib.hid (And.intro z0 hbA)
  clear z0 hbA
  have h1 : -99999999999 ≤ a := by omega
  have h2 : a ≤ 99999999999 := by omega
  have h3 : -99999999999 ≤ b := by omega
  have h4 : b ≤ 99999999999 := by omega
  have hd : (16 : Int).tdiv 1 = 16 := by decide
  have e0 : IntKind.i64.wrap 16 = 16 := by decide
  have e1 : IntKind.i64.wrap (a * 16) = a * 16 := by rw [IntKind.wrap_i64]; omega
  have e2 : IntKind.i64.wrap (b * 16) = b * 16 := by rw [IntKind.wrap_i64]; omega
  have e3 : IntKind.i64.wrap (a * 16 + b * 16) = (a + b) * 16 := by rw [IntKind.wrap_i64]; omega
  have HF := Lib.hid (fun W => frac_any ((a + b) * 16) 16 W (by decide) (by decide))
  have HO := Lib.hid (frac_sixteen (a + b) (by omega))
  clear ha hb
  go_enter Tryz.func155, Tryz.ntmps155
  go_wp2_with fail
  obtain ⟨X, hX⟩ : ∃ X, X = (((w.alloc (.cells #[.int .i64 1, .int .i64 a, .int .i64 1, .string ⟨#[]⟩, .slice none 0 0] 27)).alloc (.cells #[.int .i64 1, .int .i64 b, .int .i64 1, .string ⟨#[]⟩, .slice none 0 0] 27)).alloc (.cells #[.int .i64 0, .int .i64 0, .int .i64 0, .string ⟨#[]⟩, .slice none 0 0] 27)) := ⟨_, rfl⟩
  rw [← hX] at HZ
  have c1 : X.cell? ⟨w.heap.size, 1, none⟩ = some (.int .i64 a) := by rw [hX]; simp [go_sem]
  have c2 : X.cell? ⟨w.heap.size, 2, none⟩ = some (.int .i64 1) := by rw [hX]; simp [go_sem]
  have c3 : X.cell? ⟨w.heap.size + 1, 1, none⟩ = some (.int .i64 b) := by rw [hX]; simp [go_sem]
  have c4 : X.cell? ⟨w.heap.size + 1, 2, none⟩ = some (.int .i64 1) := by rw [hX]; simp [go_sem]
  rw [← hX]
  have hlt : w.heap.size < X.heap.size := by have := HZ.out.1.1; omega
  have hlt1 : w.heap.size + 1 < X.heap.size := by have := HZ.out.1.1; omega
  clear hX
  go_region_held3 (fun w' => w'.cell? ⟨w.heap.size, 1, none⟩ = some (.int .i64 a) ∧ w'.cell? ⟨w.heap.size, 2, none⟩ = some (.int .i64 1) ∧ w'.cell? ⟨w.heap.size + 1, 1, none⟩ = some (.int .i64 b) ∧ w'.cell? ⟨w.heap.size + 1, 2, none⟩ = some (.int .i64 1))
    (first | with_reducible exact ⟨c1, c2, c3, c4⟩ | with_reducible exact ⟨d1, d2, d3, d4⟩ | (refine ⟨?_, ?_, ?_, ?_⟩ <;> ((repeat (rw [World.cell?_setCell_other _ _ _ _ (by intro h; injection h with h; omega)])) <;> assumption)) | (simp only [World.cell?_drew]; exact ⟨c1, c2, c3, c4⟩) | go_keep)
    (first
      | (go_at_call 32
         (with_reducible refine (HF.out _).mono ?_)
         intro e w1 hq
         obtain ⟨rfl, hb1⟩ := hq.num HO.out
         have d1 := (hb1.cell (p := ⟨w.heap.size, 1, none⟩) hlt).trans c1
         have d2 := (hb1.cell (p := ⟨w.heap.size, 2, none⟩) hlt).trans c2
         have d3 := (hb1.cell (p := ⟨w.heap.size + 1, 1, none⟩) hlt1).trans c3
         have d4 := (hb1.cell (p := ⟨w.heap.size + 1, 2, none⟩) hlt1).trans c4
         obtain ⟨q, q0, q1, q2, q3, q4, qf⟩ := (HZ.out.1.below ((Below.refl _ _).drew)).below hb1))
  have HB := Lib.hid ((HZ.out.2.drew).trans (hb1.mono HZ.out.2.size))
  clear hb1 c1 c2 c3 c4 d1 d2 d3 d4 hq
  go_wp2
  exact bodyPost_ret (v := (.agg #[.int .i64 (numV (capI (a + b))).k, .int .i64 (numV (capI (a + b))).n, .int .i64 (numV (capI (a + b))).d, .string (numV (capI (a + b))).s, .slice none 0 0])) (by simp [results, Tryz.results155, go_sem, q, q0, q1, q2, q3, q4, qf]) rfl ⟨rfl, below5 HB.out (by omega)⟩

theorem add_left (k n d : Int) (s : ByteArray) (w : World) :
    Calls Tryz.prog 155 #[(.agg #[.int .i64 6, .int .i64 0, .int .i64 0, .string ⟨#[]⟩, .slice none 0 0]), (.agg #[.int .i64 k, .int .i64 n, .int .i64 d, .string s, .slice none 0 0])] w (NumIs none w) := by
  have hbA : Below w.heap.size w (((w.alloc (.cells #[.int .i64 6, .int .i64 0, .int .i64 0, .string ⟨#[]⟩, .slice none 0 0] 27)).alloc (.cells #[.int .i64 k, .int .i64 n, .int .i64 d, .string s, .slice none 0 0] 27)).alloc (.cells #[.int .i64 0, .int .i64 0, .int .i64 0, .string ⟨#[]⟩, .slice none 0 0] 27)) := (((Below.refl _ _).alloc (Nat.le_refl _) _).alloc (by simp) _).alloc (by simp; omega) _
  have z0 : Zero5 (((w.alloc (.cells #[.int .i64 6, .int .i64 0, .int .i64 0, .string ⟨#[]⟩, .slice none 0 0] 27)).alloc (.cells #[.int .i64 k, .int .i64 n, .int .i64 d, .string s, .slice none 0 0] 27)).alloc (.cells #[.int .i64 0, .int .i64 0, .int .i64 0, .string ⟨#[]⟩, .slice none 0 0] 27)) (w.heap.size + 2) := by
    have := Zero5.new ((w.alloc (.cells #[.int .i64 6, .int .i64 0, .int .i64 0, .string ⟨#[]⟩, .slice none 0 0] 27)).alloc (.cells #[.int .i64 k, .int .i64 n, .int .i64 d, .string s, .slice none 0 0] 27))
    simpa using this
  have HZ := Lib.hid (And.intro z0 hbA)
  clear z0 hbA
  go_enter Tryz.func155, Tryz.ntmps155
  go_wp2_with fail
  refine (doubt_any _).mono ?_
  rintro e w1 ⟨rfl, hb1⟩
  obtain ⟨q, q0, q1, q2, q3, q4, qf⟩ := HZ.out.1.below hb1
  have HB := Lib.hid (HZ.out.2.trans (hb1.mono HZ.out.2.size))
  clear hb1
  go_wp2
  exact bodyPost_ret (v := (.agg #[.int .i64 6, .int .i64 0, .int .i64 0, .string ⟨#[]⟩, .slice none 0 0])) (by simp [results, Tryz.results155, go_sem, q, q0, q1, q2, q3, q4, qf]) rfl ⟨rfl, below5 HB.out (by omega)⟩
theorem add_right (a : Int) (w : World) :
    Calls Tryz.prog 155 #[(.agg #[.int .i64 1, .int .i64 a, .int .i64 1, .string ⟨#[]⟩, .slice none 0 0]), (.agg #[.int .i64 6, .int .i64 0, .int .i64 0, .string ⟨#[]⟩, .slice none 0 0])] w (NumIs none w) := by
  have hbA : Below w.heap.size w (((w.alloc (.cells #[.int .i64 1, .int .i64 a, .int .i64 1, .string ⟨#[]⟩, .slice none 0 0] 27)).alloc (.cells #[.int .i64 6, .int .i64 0, .int .i64 0, .string ⟨#[]⟩, .slice none 0 0] 27)).alloc (.cells #[.int .i64 0, .int .i64 0, .int .i64 0, .string ⟨#[]⟩, .slice none 0 0] 27)) := (((Below.refl _ _).alloc (Nat.le_refl _) _).alloc (by simp) _).alloc (by simp; omega) _
  have z0 : Zero5 (((w.alloc (.cells #[.int .i64 1, .int .i64 a, .int .i64 1, .string ⟨#[]⟩, .slice none 0 0] 27)).alloc (.cells #[.int .i64 6, .int .i64 0, .int .i64 0, .string ⟨#[]⟩, .slice none 0 0] 27)).alloc (.cells #[.int .i64 0, .int .i64 0, .int .i64 0, .string ⟨#[]⟩, .slice none 0 0] 27)) (w.heap.size + 2) := by
    have := Zero5.new ((w.alloc (.cells #[.int .i64 1, .int .i64 a, .int .i64 1, .string ⟨#[]⟩, .slice none 0 0] 27)).alloc (.cells #[.int .i64 6, .int .i64 0, .int .i64 0, .string ⟨#[]⟩, .slice none 0 0] 27))
    simpa using this
  have HZ := Lib.hid (And.intro z0 hbA)
  clear z0 hbA
  go_enter Tryz.func155, Tryz.ntmps155
  go_wp2_with fail
  refine (doubt_any _).mono ?_
  rintro e w1 ⟨rfl, hb1⟩
  obtain ⟨q, q0, q1, q2, q3, q4, qf⟩ := HZ.out.1.below hb1
  have HB := Lib.hid (HZ.out.2.trans (hb1.mono HZ.out.2.size))
  clear hb1
  go_wp2
  exact bodyPost_ret (v := (.agg #[.int .i64 6, .int .i64 0, .int .i64 0, .string ⟨#[]⟩, .slice none 0 0])) (by simp [results, Tryz.results155, go_sem, q, q0, q1, q2, q3, q4, qf]) rfl ⟨rfl, below5 HB.out (by omega)⟩

/-- None, or no greater than is spoken of. -/
def Small : Option Int → Prop
  | some n => n.natAbs ≤ 99999999999
  | none => True
theorem capI_small (n : Int) : Small (capI n) := by
  unfold capI
  split
  · assumption
  · trivial
theorem mulI_small (a b : Int) : Small (mulI a b) := by
  unfold mulI
  split
  · exact capI_small _
  · trivial
theorem addI_small (o u : Option Int) : Small (addI o u) := by
  cases o <;> cases u <;> first | trivial | exact capI_small _
theorem add_any (o u : Option Int) (w : World) (ho : Small o) (hu : Small u) :
    Calls Tryz.prog 155 #[(.agg #[.int .i64 (numV o).k, .int .i64 (numV o).n, .int .i64 (numV o).d, .string (numV o).s, .slice none 0 0]), (.agg #[.int .i64 (numV u).k, .int .i64 (numV u).n, .int .i64 (numV u).d, .string (numV u).s, .slice none 0 0])] w (NumIs (addI o u) w) := by
  cases o with
  | none => exact add_left _ _ _ _ w
  | some a =>
    cases u with
    | none => exact add_right a w
    | some b => exact add_some a b w ho hu
end

/- The product of matrices of whole numbers: what the reference reckons, and what floats make of it. No program in sight. -/
section
open Go.RowKit
set_option maxRecDepth 100000

/-- The sum of the first k products, as the reference has it. -/
def idot (f g : Nat → Int) : Nat → Option Int
  | 0 => some 0
  | k + 1 => addI (idot f g k) (mulI (f k) (g k))
def fmul (x y : Nat) : Nat := (floatBits .mul .f64 x y).getD 0
def fadd (x y : Nat) : Nat := (floatBits .add .f64 x y).getD 0
/-- The same of floats. -/
def fdot (f g : Nat → Nat) : Nat → Nat
  | 0 => 0
  | k + 1 => fadd (fdot f g k) (fmul (f k) (g k))
theorem idot_small (f g : Nat → Int) (k : Nat) : Small (idot f g k) := by
  cases k with
  | zero => show (0 : Int).natAbs ≤ 99999999999; decide
  | succ k => exact addI_small _ _
theorem addI_some {o u : Option Int} {n : Int} (h : addI o u = some n) : ∃ a b, o = some a ∧ u = some b ∧ n = a + b ∧ (a + b).natAbs ≤ 99999999999 := by
  cases o with
  | none => cases h
  | some a =>
    cases u with
    | none => cases h
    | some b =>
      refine ⟨a, b, rfl, rfl, ?_⟩
      have h' : capI (a + b) = some n := h
      unfold capI at h'
      split at h'
      · rename_i hle
        injection h' with h'
        exact ⟨h'.symm, hle⟩
      · cases h'
theorem mulI_some {a b n : Int} (h : mulI a b = some n) : n = a * b ∧ (a * b).natAbs ≤ 99999999999 := by
  unfold mulI at h
  split at h
  · unfold capI at h
    split at h
    · rename_i hle
      injection h with h
      exact ⟨h.symm, hle⟩
    · cases h
  · cases h
theorem fmul_is {x y : Nat} {a b n : Int} (hx : Fl.Is x a) (hy : Fl.Is y b) (h : mulI a b = some n) : floatBits .mul .f64 x y = some (fmul x y) ∧ Fl.Is (fmul x y) n := by
  obtain ⟨rfl, hle⟩ := mulI_some h
  obtain ⟨r, hr, hi⟩ := Fl.is_mul hx hy (Nat.lt_of_le_of_lt hle (by decide))
  have : fmul x y = r := by unfold fmul; rw [hr]; rfl
  rw [this]
  exact ⟨hr, hi⟩
theorem fadd_is {x y : Nat} {a b : Int} (hx : Fl.Is x a) (hy : Fl.Is y b) (h : (a + b).natAbs ≤ 99999999999) : floatBits .add .f64 x y = some (fadd x y) ∧ Fl.Is (fadd x y) (a + b) := by
  obtain ⟨r, hr, hi⟩ := Fl.is_add hx hy (Nat.lt_of_le_of_lt h (by decide))
  have : fadd x y = r := by unfold fadd; rw [hr]; rfl
  rw [this]
  exact ⟨hr, hi⟩
/-- Where something is said of the sum, something is said of each part of it, and the floats are exact. -/
theorem idot_part {f g : Nat → Int} {m k : Nat} {n : Int} (h : idot f g m = some n) (hk : k ≤ m) : ∃ a, idot f g k = some a := by
  induction m generalizing n with
  | zero =>
    obtain rfl : k = 0 := by omega
    exact ⟨n, h⟩
  | succ m ih =>
    by_cases hkm : k = m + 1
    · subst hkm; exact ⟨n, h⟩
    · obtain ⟨a, b, ha, _⟩ := addI_some h
      exact ih ha (by omega)
theorem fdot_is {f g : Nat → Int} {ff gg : Nat → Nat} (k : Nat) : ∀ {n : Int}, idot f g k = some n → (∀ q, q < k → Fl.Is (ff q) (f q) ∧ Fl.Is (gg q) (g q)) → Fl.Is (fdot ff gg k) n := by
  induction k with
  | zero =>
    intro n h _
    injection h with h
    subst h
    exact Fl.is_zero0
  | succ k ih =>
    intro n h hq
    obtain ⟨a, b, ha, hb, rfl, hle⟩ := addI_some h
    have h1 := ih ha fun q hqk => hq q (by omega)
    have h2 := (fmul_is (hq k (by omega)).1 (hq k (by omega)).2 hb).2
    exact (fadd_is h1 h2 hle).2
theorem fdot_step {f g : Nat → Int} {ff gg : Nat → Nat} {m k : Nat} {n : Int} (h : idot f g m = some n) (hk : k < m) (hq : ∀ q, q < m → Fl.Is (ff q) (f q) ∧ Fl.Is (gg q) (g q)) :
    floatBits .mul .f64 (ff k) (gg k) = some (fmul (ff k) (gg k)) ∧ floatBits .add .f64 (fdot ff gg k) (fmul (ff k) (gg k)) = some (fdot ff gg (k + 1)) := by
  obtain ⟨s, hs⟩ := idot_part h (show k + 1 ≤ m from hk)
  obtain ⟨a, b, ha, hb, rfl, hle⟩ := addI_some hs
  have h1 := fdot_is k ha fun q hqk => hq q (by omega)
  have h2 := fmul_is (hq k hk).1 (hq k hk).2 hb
  exact ⟨h2.1, (fadd_is h1 h2.2 hle).1⟩

/-- A matrix by its places. -/
def at2 {α : Type} (M : List (List α)) (d : α) (i j : Nat) : α := (M.getD i []).getD j d
theorem at2_get {α : Type} {M : List (List α)} {d : α} {i j : Nat} {r : List α} {x : α} (hr : M[i]? = some r) (hx : r[j]? = some x) : at2 M d i j = x := by
  have h1 : M.getD i [] = r := by rw [List.getD_eq_getElem?_getD, hr]; rfl
  unfold at2
  rw [h1, List.getD_eq_getElem?_getD, hx]; rfl
def grid {α : Type} (f : Nat → Nat → α) (n p : Nat) : List (List α) := (List.range n).map fun i => (List.range p).map fun j => f i j
theorem grid_len {α : Type} (f : Nat → Nat → α) (n p : Nat) : (grid f n p).length = n := by unfold grid; rw [List.length_map, List.length_range]
theorem grid_get {α : Type} (f : Nat → Nat → α) (n p i : Nat) (h : i < n) : (grid f n p)[i]? = some ((List.range p).map fun j => f i j) := by unfold grid; rw [List.getElem?_map, List.getElem?_range h]; rfl
theorem line_get {α : Type} (f : Nat → α) (p j : Nat) (h : j < p) : ((List.range p).map f)[j]? = some (f j) := by rw [List.getElem?_map, List.getElem?_range h]; rfl
theorem line_len {α : Type} (f : Nat → α) (p : Nat) : ((List.range p).map f).length = p := by rw [List.length_map, List.length_range]
theorem line_snoc {α : Type} (f : Nat → α) (p : Nat) : (List.range (p + 1)).map f = (List.range p).map f ++ [f p] := by rw [List.range_succ, List.map_append]; rfl
theorem grid_snoc {α : Type} (f : Nat → Nat → α) (n p : Nat) : grid f (n + 1) p = grid f n p ++ [(List.range p).map fun j => f n j] := by unfold grid; exact line_snoc _ n
/-- What the reference says of the product, and what the floats are. -/
def prodV (A B : List (List Int)) (m : Nat) (i j : Nat) : Fv := numV (idot (fun x => at2 A 0 i x) (fun x => at2 B 0 x j) m)
def prodF (F G : List (List Nat)) (m : Nat) (i j : Nat) : Nat := fdot (fun x => at2 F 0 i x) (fun x => at2 G 0 x j) m
end

/- table of whole numbers. -/
section
open Go.RowKit
set_option maxRecDepth 100000
set_option maxHeartbeats 1000000

/-- An empty cell, a whole number, or one of which nothing is said. -/
def Fv.NumC (x : Fv) : Prop := x = ⟨0, 0, 0, ⟨#[]⟩⟩ ∨ ∃ o : Option Int, x = numV o ∧ Small o
theorem Fv.NumC.cell {x : Fv} (h : x.NumC) : x.Cell := by
  rcases h with rfl | ⟨o, rfl, ho⟩
  · exact cell_zero
  · cases o with
    | none => exact ⟨.inl (.inr (.inr (.inr rfl))), by simp [numV], by simp [numV], by simp [numV], by simp [numV], by simp [numV]⟩
    | some n => exact ⟨.inr (.inl ⟨rfl, by have h : n.natAbs ≤ 99999999999 := ho; show -99999999999 ≤ n; omega, by have h : n.natAbs ≤ 99999999999 := ho; show n ≤ 99999999999; omega, by simp [dens, numV]⟩), by simp [numV], by simp [numV], by simp [numV], by simp [numV], by simp [numV]⟩

set_option maxHeartbeats 4000000 in
theorem val_num (k n : Int) (s : ByteArray) (w : World) (hk : k = 1) :
    Calls Tryz.prog 22 #[.agg #[.int .i64 k, .int .i64 n, .string s]] w fun e w' => ∃ x : Fv, x.NumC ∧ e = .returned (.agg #[.int .i64 x.k, .int .i64 x.n, .int .i64 x.d, .string x.s, .slice none 0 0]) ∧ Below w.heap.size w w' := by
  subst hk
  have z0 := Zero5.new (w.alloc (.cells #[.int .i64 1, .int .i64 n, .string s] 54))
  simp only [World.size_alloc] at z0
  have hbA : Below w.heap.size w ((w.alloc (.cells #[.int .i64 1, .int .i64 n, .string s] 54)).alloc (.cells #[.int .i64 0, .int .i64 0, .int .i64 0, .string ⟨#[]⟩, .slice none 0 0] 27)) := ((Below.refl _ _).alloc (Nat.le_refl _) _).alloc (by simp) _
  have ZB := Lib.hid (And.intro z0 hbA)
  clear z0 hbA
  have h : (1 : Int) % 6 = 1 := by decide
  by_cases hbig : 99999999999 < n ∨ n < -99999999999
  · have HBIG := Lib.hid hbig
    clear hbig
    go_enter Tryz.func22, Tryz.ntmps22
    go_wp2_with fail
    refine (part_any 1 6 _ (.inl rfl) (by decide) (by decide)).mono ?_
    rintro e w0 ⟨rfl, rfl⟩
    go_wp2_with fail
    refine (int_big n _ HBIG.out).mono ?_
    rintro e w1 ⟨rfl, hb1⟩
    obtain ⟨z0, hbA⟩ := ZB.out
    obtain ⟨q, q0, q1, q2, q3, q4, qf⟩ := z0.below hb1
    have hbw := hbA.trans (hb1.mono (by simp; omega))
    clear z0 hbA hb1 ZB
    go_wp2
    exact bodyPost_ret (v := (.agg #[.int .i64 6, .int .i64 0, .int .i64 0, .string ⟨#[]⟩, .slice none 0 0])) (by simp [results, Tryz.results22, go_sem, q, q0, q1, q2, q3, q4, qf]) rfl ⟨⟨6, 0, 0, ⟨#[]⟩⟩, .inr ⟨none, rfl, trivial⟩, rfl, (by (repeat' (first | with_reducible exact Below.refl _ _ | with_reducible refine Below.setCell ?_ ?_ _ | with_reducible refine Below.alloc ?_ ?_ _ | with_reducible refine Below.drew ?_ | with_reducible refine Below.trans ?_ (Below.mono (by assumption) ?_))); all_goals (first | omega | (simp [World.setCell]; done) | (simp [World.setCell]; omega)))⟩
  · have hlo : -99999999999 ≤ n := by omega
    have hhi : n ≤ 99999999999 := by omega
    have HLH := Lib.hid (And.intro hlo hhi)
    clear hbig hlo hhi
    go_enter Tryz.func22, Tryz.ntmps22
    go_wp2_with fail
    refine (part_any 1 6 _ (.inl rfl) (by decide) (by decide)).mono ?_
    rintro e w0 ⟨rfl, rfl⟩
    go_wp2_with fail
    refine (int_ok n _ HLH.out.2 HLH.out.1).mono ?_
    rintro e w1 ⟨rfl, hb1⟩
    obtain ⟨z0, hbA⟩ := ZB.out
    obtain ⟨q, q0, q1, q2, q3, q4, qf⟩ := z0.below hb1
    have hbw := hbA.trans (hb1.mono (by simp; omega))
    clear z0 hbA hb1 ZB
    go_wp2
    exact bodyPost_ret (v := (.agg #[.int .i64 1, .int .i64 n, .int .i64 1, .string ⟨#[]⟩, .slice none 0 0])) (by simp [results, Tryz.results22, go_sem, q, q0, q1, q2, q3, q4, qf]) rfl ⟨⟨1, n, 1, ⟨#[]⟩⟩, .inr ⟨some n, rfl, by have := HLH.out; show n.natAbs ≤ 99999999999; omega⟩, rfl, (by (repeat' (first | with_reducible exact Below.refl _ _ | with_reducible refine Below.setCell ?_ ?_ _ | with_reducible refine Below.alloc ?_ ?_ _ | with_reducible refine Below.drew ?_ | with_reducible refine Below.trans ?_ (Below.mono (by assumption) ?_))); all_goals (first | omega | (simp [World.setCell]; done) | (simp [World.setCell]; omega)))⟩

def RectN (rows : List (List Fv)) : Prop := rows ≠ [] ∧ rows.length ≤ 120 ∧ ∃ C : Nat, 1 ≤ C ∧ C ≤ 6 ∧ ∀ r ∈ rows, r.length = C ∧ ∀ x ∈ r, x.NumC
theorem RectN.rect {rows : List (List Fv)} (h : RectN rows) : Rect rows := by
  obtain ⟨h1, h2, C, h3, h4, h5⟩ := h
  exact ⟨h1, h2, C, h3, h4, fun r hr => ⟨(h5 r hr).1, fun x hx => ((h5 r hr).2 x hx).cell⟩⟩
def TablePostN (w : World) (e : Ending) (w' : World) : Prop :=
  ∃ (A : Option Addr) (m c : Nat) (rows : List (List Fv)), e = .returned (.agg #[.int .i64 5, .int .i64 0, .int .i64 0, .string ⟨#[]⟩, .slice A m c]) ∧ RowsIs 5 w' (New w.heap.size w') A m (rows.map fvs) ∧ RectN rows ∧ Below w.heap.size w w'
theorem numc_zero : (⟨0, 0, 0, ⟨#[]⟩⟩ : Fv).NumC := .inl rfl
theorem numc_snoc {r : List Fv} {x : Fv} (h : ∀ y ∈ r, y.NumC) (hx : x.NumC) : ∀ y ∈ r ++ [x], y.NumC := by
  intro y hy
  rcases List.mem_append.1 hy with hy | hy
  · exact h y hy
  · simp at hy; subst hy; exact hx
theorem rows_snocN {M : List (List Fv)} {r : List Fv} {C : Nat} (h : ∀ r ∈ M, r.length = C ∧ ∀ x ∈ r, x.NumC) (h1 : r.length = C) (h2 : ∀ x ∈ r, x.NumC) : ∀ r' ∈ M ++ [r], r'.length = C ∧ ∀ x ∈ r', x.NumC := by
  intro r' hr
  rcases List.mem_append.1 hr with hr | hr
  · exact h r' hr
  · simp at hr; subst hr; exact ⟨h1, h2⟩
def RowAtN (wo wq : World) (q : Nat) (z : Value) : Prop := ∃ r : List Fv, Below wo.heap.size wo wq ∧ r.length = q ∧ (∀ x ∈ r, x.NumC) ∧ Owns wq wo.heap.size 27 5 z (fvs r)
def TabRelN (C0 : Nat) (w wr : World) (k : Nat) (y : Value) : Prop := ∃ (G : List Value) (M : List (List Fv)), TabAt w wr ∧ M.length = k ∧ (∀ r ∈ M, r.length = 1 + C0 ∧ ∀ x ∈ r, x.NumC) ∧ (KRow 5).Many wr (w.heap.size + 1) 29 1 y G (M.map fvs)

set_option maxHeartbeats 4000000 in
theorem tableN_few (A : Option Addr) (c : Nat) (X : List It) (cols : Int) (w : World) (hsrc : Src w w.heap.size A 3 (X.map It.cells)) (hlen : X.length ≤ 9223372036854775807) (hlc : X.length ≤ c) (hc : c ≤ 9223372036854775807)
    (hok : ∀ x ∈ X, x.k = 1) (h1 : -9223372036854775808 ≤ cols) (h2 : cols ≤ 9223372036854775807) (hbig : X.length ≤ 120) :
    Calls Tryz.prog 9 #[.slice A X.length c, .int .i64 cols] w (TablePostN w) := by
  obtain ⟨n, hn⟩ : ∃ n, n = X.length := ⟨_, rfl⟩
  rw [← hn] at hbig
  rw [← hn]
  rw [← hn] at hlen hlc
  have HN := Lib.hid hn
  have HO := Lib.hid hok
  have HSRC := Lib.hid hsrc
  have HC := Lib.hid (And.intro h1 h2)
  clear hn hok hsrc h1 h2
  obtain ⟨C0, hC0⟩ : ∃ C0 : Nat, cols % 6 = (C0 : Int) := ⟨(cols % 6).toNat, by omega⟩
  have hC5 : C0 ≤ 5 := by omega
  have HC0 := Lib.hid hC0
  clear hC0
  obtain ⟨R, hR⟩ : ∃ R : Nat, R = n / (1 + C0) := ⟨_, rfl⟩
  have hRl : R ≤ 120 := by rw [hR]; exact Nat.le_trans (Nat.div_le_self _ _) (by omega)
  have hRq : (n : Int) / (1 + (C0 : Int)) = (R : Int) := by rw [hR]; simp
  clear hR
  go_enter Tryz.func9, Tryz.ntmps9
  go_wp2_with fail
  refine (part_any cols 6 _ (.inl rfl) HC.out.1 HC.out.2).mono ?_
  rw [HC0.out]
  rintro e w0 ⟨rfl, rfl⟩
  by_cases hR0 : R = 0
  · subst hR0
    go_wp2_with fail
    go_loopw [6, 7] (fun v i wr => ∃ (k : Nat) (y : Value), k ≤ 1 ∧ i = .int .i64 k ∧ y = v ∧ TabRelN C0 w wr k y) (fun _ i _ => 1 - (intOf i).toNat)
    case atStart => exact ⟨0, _, Nat.zero_le _, rfl, rfl, [], [], ⟨Blk.new w _ _, (Below.refl _ _).alloc (Nat.le_refl _) _⟩, rfl, by simp, Kind.Many.nil _ _ _ _⟩
    case round =>
      obtain ⟨k, y, hk, rfl, rfl, G, M, hat, hML, hMok, hmany⟩ := hrel
      have HA := Lib.hid hat
      have HM := Lib.hid hmany
      have HML := Lib.hid (And.intro hML hMok)
      clear hat hmany hML hMok
      have hwb : w.heap.size < wr.heap.size := HA.out.1.lt
      by_cases hlt : k < 1
      · obtain ⟨P, hP⟩ : ∃ P : Nat, P = k * (1 + C0) := ⟨_, rfl⟩
        have hPl : P ≤ 120 * 6 := by rw [hP]; exact Nat.mul_le_mul (by omega) (by omega)
        have hPe : (k : Int) * (1 + (C0 : Int)) = (P : Int) := by rw [hP]; simp
        clear hP
        go_wp2_with fail
        obtain ⟨wo, rfl⟩ : ∃ wo : World, wo = wr := ⟨_, rfl⟩
        go_loopw [8, 9] (fun v i wq => ∃ (q : Nat) (z : Value), q ≤ 1 + C0 ∧ i = .int .i64 q ∧ z = v ∧ RowAtN wo wq q z) (fun _ i _ => 1 + C0 - (intOf i).toNat)
        case atStart => exact ⟨0, _, Nat.zero_le _, rfl, rfl, [], Below.refl _ _, rfl, by simp, Owns.nil_ _ _ _ _⟩
        case round =>
          obtain ⟨q, zz, hq, rfl, rfl, r, hbq, hrl, hrok, hownq⟩ := hrel
          have HOQ := Lib.hid hownq
          have HRL := Lib.hid (And.intro hrl hrok)
          have hszq := hbq.size
          have hlk : (fvs r).length ≤ 1000000 := by unfold fvs; rw [List.length_map]; omega
          clear hownq hrl hrok
          by_cases hqc : q < 1 + C0
          · by_cases hin : P + q < n
            · obtain ⟨x, hx⟩ : ∃ x, X[P + q]? = some x := ⟨_, List.getElem?_eq_getElem (by rw [← HN.out]; omega)⟩
              rcases HSRC.out with hnil | ⟨b, off, rfl, hb, hrow⟩
              · exfalso
                have : X = [] := by simpa using hnil
                subst this
                simp at hx
              have hbw : Below w.heap.size w wr := HA.out.2.trans (hbq.mono HA.out.2.size)
              have hR := (hrow.below hbw hb) (P + q) x.cells (by simp [hx])
              have c0 : wr.cell? ⟨b, off + (P + q) * 3, none⟩ = some (.int .i64 x.k) := hR.2 0 _ rfl
              have c1 : wr.cell? ⟨b, off + (P + q) * 3 + 1, none⟩ = some (.int .i64 x.n) := hR.2 1 _ rfl
              have c2 : wr.cell? ⟨b, off + (P + q) * 3 + 2, none⟩ = some (.string x.s) := hR.2 2 _ rfl
              have HXO := Lib.hid (HO.out x (List.mem_of_getElem? hx))
              have hbr : b < wr.heap.size := Nat.lt_of_lt_of_le hb hbw.size
              have z0 := Zero5.new wr
              have Z0 := Lib.hid z0
              clear hx hR hrow hbw z0
              go_wp2_with fail
              refine (val_num _ _ _ _ HXO.out).mono ?_
              rintro e w1 ⟨v, hv, rfl, hb1⟩
              have HV := Lib.hid hv
              obtain ⟨z, q0, q1, q2, q3, q4, qf⟩ := Z0.out.below hb1
              have hz1 := hb1.size
              simp only [World.size_alloc] at hz1
              have hbq1 : Below wo.heap.size wo w1 := (hbq.alloc hszq _).trans (hb1.mono (by simp; omega))
              have hown1 : Owns w1 wo.heap.size 27 5 zz (fvs r) := (HOQ.out.below ((Below.refl _ _).alloc (Nat.le_refl _) _)).below hb1
              have hnz : zz.ownBlock = none ∨ zz.ownBlock ≠ some wr.heap.size := HOQ.out.other (Nat.le_refl _)
              clear hv c0 c1 c2 hb1
              go_wp2_with (at_builtin; refine wpList_append_box _ rfl (.tmp 51) (.tmp 53) 29 rfl wo.heap.size 27 _ 5 64 Tryz.underlying29 infoV rfl (by decide) _ (fvs r) (by rfl) (by exact hown1.put5 hnz) #[.int .i64 v.k, .int .i64 v.n, .int .i64 v.d, .string v.s, .slice none 0 0] rfl 1 _ (by rfl) (by simp [size_setCell]) (by exact v.one) hlk (by decide) (by simp only [size_setCell]; omega) ?_; intro v' w2 hown2 hg2 hat2 hbe2)
              have hbf := (below5 hbq1 (B := wr.heap.size) hszq).trans hbe2
              have HBF := Lib.hid hbf
              clear hbf
              go_roundw
              case rel => first | exact ⟨q + 1, _, by omega, by go_num, rfl, r ++ [v], HBF.out, by rw [List.length_append, HRL.out.1]; rfl, numc_snoc HRL.out.2 HV.out, by unfold fvs at hown2 ⊢; rw [List.map_append]; exact hown2⟩ | exact ⟨q + 1, by omega, by go_num, r ++ [v], HBF.out, by rw [List.length_append, HRL.out.1]; rfl, numc_snoc HRL.out.2 HV.out, by unfold fvs at hown2 ⊢; rw [List.map_append]; exact hown2⟩
              case measure => simp [intOf]; omega
            · have hown1 : Owns (wr.alloc (.cells #[.int .i64 0, .int .i64 0, .int .i64 0, .string ⟨#[]⟩, .slice none 0 0] 27)) wo.heap.size 27 5 zz (fvs r) := HOQ.out.below ((Below.refl _ _).alloc (Nat.le_refl _) _)
              go_wp2_with (at_builtin; refine wpList_append_box _ rfl (.tmp 51) (.tmp 53) 29 rfl wo.heap.size 27 _ 5 64 Tryz.underlying29 infoV rfl (by decide) zz (fvs r) (by rfl) (by exact hown1) #[.int .i64 0, .int .i64 0, .int .i64 0, .string ⟨#[]⟩, .slice none 0 0] rfl 1 _ (by rfl) (by simp) (by exact Fv.one ⟨0, 0, 0, ⟨#[]⟩⟩) hlk (by decide) (by simp; omega) ?_; intro v' w2 hown2 hg2 hat2 hbe2)
              have HBF := Lib.hid ((hbq.alloc hszq _).trans hbe2)
              go_roundw
              case rel => first | exact ⟨q + 1, _, by omega, by go_num, rfl, r ++ [⟨0, 0, 0, ⟨#[]⟩⟩], HBF.out, by rw [List.length_append, HRL.out.1]; rfl, numc_snoc HRL.out.2 numc_zero, by unfold fvs at hown2 ⊢; rw [List.map_append]; exact hown2⟩ | exact ⟨q + 1, by omega, by go_num, r ++ [⟨0, 0, 0, ⟨#[]⟩⟩], HBF.out, by rw [List.length_append, HRL.out.1]; rfl, numc_snoc HRL.out.2 numc_zero, by unfold fvs at hown2 ⊢; rw [List.map_append]; exact hown2⟩
              case measure => simp [intOf]; omega
          · have hqe : q = 1 + C0 := by omega
            subst hqe
            have hrow1 : RowIs 5 wr (New wo.heap.size wr) zz (fvs r) := HOQ.out.rowIs (by intro h; have := HRL.out.1; rw [show r = [] by simpa [fvs] using h] at this; simp at this <;> omega)
            obtain ⟨h0, g5, off5, c5, rfl, hS5, hrow5⟩ := hrow1
            have hle : (fvs r).length = 1 + C0 := by rw [fvs, List.length_map]; exact HRL.out.1
            rw [hle]
            have HR5 : Hid (RowIs 5 wr (New wo.heap.size wr) (.slice (some ⟨g5, off5, none⟩) (1 + C0) c5) (fvs r)) := Lib.hid ⟨h0, g5, off5, c5, by rw [hle], hS5, hrow5⟩
            have hown1 : Owns wr (w.heap.size + 1) 29 1 y (G.map (KRow 5).cells) := (HM.out.below hbq).1
            have hlk2 : (G.map (KRow 5).cells).length ≤ 1000000 := by rw [List.length_map, HM.out.len, List.length_map, HML.out.1]; omega
            clear h0 hS5 hrow5 hle
            go_wp2_with (at_builtin; refine wpList_append_box wr rfl (.tmp 55) (.tmp 57) 25 rfl (w.heap.size + 1) 29 _ 1 24 Tryz.underlying25 infoVs rfl (by decide) y (G.map (KRow 5).cells) (by rfl) (by exact hown1) #[.slice (some ⟨g5, off5, none⟩) (1 + C0) c5] rfl 1 _ (by rfl) (by simp) (by exact one_slice _ _ _) hlk2 (by decide) (by omega) ?_; intro v' w2 hown2 hg2 hat2 hbe2)
            have hpush := HM.out.push (K := KRow 5) (g := .slice (some ⟨g5, off5, none⟩) (1 + C0) c5) (m := fvs r) (by omega) hbq HR5.out hown2 hg2 (hat2.elim .inl fun h => .inr ⟨_, h, by simp⟩)
            have HPU := Lib.hid hpush
            clear hpush
            go_roundw
            case rel => first | exact ⟨k + 1, _, by omega, by go_num, rfl, G ++ [.slice (some ⟨g5, off5, none⟩) (1 + C0) c5], M ++ [r], HA.out.step HPU.out.2, by rw [List.length_append, HML.out.1]; rfl, rows_snocN HML.out.2 HRL.out.1 HRL.out.2, by rw [List.map_append]; exact HPU.out.1⟩ | exact ⟨k + 1, by omega, by go_num, G ++ [.slice (some ⟨g5, off5, none⟩) (1 + C0) c5], M ++ [r], HA.out.step HPU.out.2, by rw [List.length_append, HML.out.1]; rfl, rows_snocN HML.out.2 HRL.out.1 HRL.out.2, by rw [List.map_append]; exact HPU.out.1⟩
            case measure => simp [intOf]; omega
      · obtain rfl : k = 1 := by omega
        obtain ⟨g, cap, rfl, hg, hrs⟩ := rows_out HM.out (by intro h; have := HML.out.1; rw [show M = [] by simpa using h] at this; simp at this <;> omega)
        have HS := Lib.hid hrs
        have HK := Lib.hid hg
        clear hrs hg
        go_wp2_with fail
        refine (table_any _ _ _ _).mono ?_
        rintro e w1 ⟨rfl, hb1⟩
        have z0 := (tab_zero HA.out).below hb1
        obtain ⟨z, q0, q1, q2, q3, q4, qf⟩ := z0
        have HBW := Lib.hid (HA.out.2.trans (hb1.mono HA.out.2.size))
        have HRS : Hid (RowsIs 5 w1 (New (w.heap.size + 1) w1) (some ⟨g, 0, none⟩) (M.map fvs).length (M.map fvs)) := Lib.hid ((HS.out.keep (Keep.below hb1 fun _ hq => hq.2)).more fun q hq => ⟨hq.1, Nat.lt_of_lt_of_le hq.2 hb1.size⟩)
        clear hb1
        go_wp2
        exact bodyPost_ret (v := (.agg #[.int .i64 5, .int .i64 0, .int .i64 0, .string ⟨#[]⟩, .slice (some ⟨g, 0, none⟩) (M.map fvs).length cap])) (by simp [results, Tryz.results9, go_sem, z, q0, q1, q2, q3, q4, qf]) rfl ⟨_, _, cap, M, rfl, (HRS.out.keep (by repeat' (first | with_reducible exact Keep.refl _ _ | with_reducible refine Keep.set ?_ (ne_new1 _ _) _))).more (fun q hq => ⟨by have := hq.1; omega, by simp only [size_setCell]; exact hq.2⟩), ⟨by intro h; have := HML.out.1; rw [h] at this; simp at this <;> omega, by rw [HML.out.1]; omega, 1 + C0, by omega, by omega, HML.out.2⟩, below5 HBW.out (Nat.le_refl _)⟩
  · have hR0' : ((R : Int) == 0) = false := by simpa using hR0
    go_wp2_with fail
    go_loopw [6, 7] (fun v i wr => ∃ (k : Nat) (y : Value), k ≤ R ∧ i = .int .i64 k ∧ y = v ∧ TabRelN C0 w wr k y) (fun _ i _ => R - (intOf i).toNat)
    case atStart => exact ⟨0, _, Nat.zero_le _, rfl, rfl, [], [], ⟨Blk.new w _ _, (Below.refl _ _).alloc (Nat.le_refl _) _⟩, rfl, by simp, Kind.Many.nil _ _ _ _⟩
    case round =>
      obtain ⟨k, y, hk, rfl, rfl, G, M, hat, hML, hMok, hmany⟩ := hrel
      have HA := Lib.hid hat
      have HM := Lib.hid hmany
      have HML := Lib.hid (And.intro hML hMok)
      clear hat hmany hML hMok
      have hwb : w.heap.size < wr.heap.size := HA.out.1.lt
      by_cases hlt : k < R
      · obtain ⟨P, hP⟩ : ∃ P : Nat, P = k * (1 + C0) := ⟨_, rfl⟩
        have hPl : P ≤ 120 * 6 := by rw [hP]; exact Nat.mul_le_mul (by omega) (by omega)
        have hPe : (k : Int) * (1 + (C0 : Int)) = (P : Int) := by rw [hP]; simp
        clear hP
        go_wp2_with fail
        obtain ⟨wo, rfl⟩ : ∃ wo : World, wo = wr := ⟨_, rfl⟩
        go_loopw [8, 9] (fun v i wq => ∃ (q : Nat) (z : Value), q ≤ 1 + C0 ∧ i = .int .i64 q ∧ z = v ∧ RowAtN wo wq q z) (fun _ i _ => 1 + C0 - (intOf i).toNat)
        case atStart => exact ⟨0, _, Nat.zero_le _, rfl, rfl, [], Below.refl _ _, rfl, by simp, Owns.nil_ _ _ _ _⟩
        case round =>
          obtain ⟨q, zz, hq, rfl, rfl, r, hbq, hrl, hrok, hownq⟩ := hrel
          have HOQ := Lib.hid hownq
          have HRL := Lib.hid (And.intro hrl hrok)
          have hszq := hbq.size
          have hlk : (fvs r).length ≤ 1000000 := by unfold fvs; rw [List.length_map]; omega
          clear hownq hrl hrok
          by_cases hqc : q < 1 + C0
          · by_cases hin : P + q < n
            · obtain ⟨x, hx⟩ : ∃ x, X[P + q]? = some x := ⟨_, List.getElem?_eq_getElem (by rw [← HN.out]; omega)⟩
              rcases HSRC.out with hnil | ⟨b, off, rfl, hb, hrow⟩
              · exfalso
                have : X = [] := by simpa using hnil
                subst this
                simp at hx
              have hbw : Below w.heap.size w wr := HA.out.2.trans (hbq.mono HA.out.2.size)
              have hR := (hrow.below hbw hb) (P + q) x.cells (by simp [hx])
              have c0 : wr.cell? ⟨b, off + (P + q) * 3, none⟩ = some (.int .i64 x.k) := hR.2 0 _ rfl
              have c1 : wr.cell? ⟨b, off + (P + q) * 3 + 1, none⟩ = some (.int .i64 x.n) := hR.2 1 _ rfl
              have c2 : wr.cell? ⟨b, off + (P + q) * 3 + 2, none⟩ = some (.string x.s) := hR.2 2 _ rfl
              have HXO := Lib.hid (HO.out x (List.mem_of_getElem? hx))
              have hbr : b < wr.heap.size := Nat.lt_of_lt_of_le hb hbw.size
              have z0 := Zero5.new wr
              have Z0 := Lib.hid z0
              clear hx hR hrow hbw z0
              go_wp2_with fail
              refine (val_num _ _ _ _ HXO.out).mono ?_
              rintro e w1 ⟨v, hv, rfl, hb1⟩
              have HV := Lib.hid hv
              obtain ⟨z, q0, q1, q2, q3, q4, qf⟩ := Z0.out.below hb1
              have hz1 := hb1.size
              simp only [World.size_alloc] at hz1
              have hbq1 : Below wo.heap.size wo w1 := (hbq.alloc hszq _).trans (hb1.mono (by simp; omega))
              have hown1 : Owns w1 wo.heap.size 27 5 zz (fvs r) := (HOQ.out.below ((Below.refl _ _).alloc (Nat.le_refl _) _)).below hb1
              have hnz : zz.ownBlock = none ∨ zz.ownBlock ≠ some wr.heap.size := HOQ.out.other (Nat.le_refl _)
              clear hv c0 c1 c2 hb1
              go_wp2_with (at_builtin; refine wpList_append_box _ rfl (.tmp 51) (.tmp 53) 29 rfl wo.heap.size 27 _ 5 64 Tryz.underlying29 infoV rfl (by decide) _ (fvs r) (by rfl) (by exact hown1.put5 hnz) #[.int .i64 v.k, .int .i64 v.n, .int .i64 v.d, .string v.s, .slice none 0 0] rfl 1 _ (by rfl) (by simp [size_setCell]) (by exact v.one) hlk (by decide) (by simp only [size_setCell]; omega) ?_; intro v' w2 hown2 hg2 hat2 hbe2)
              have hbf := (below5 hbq1 (B := wr.heap.size) hszq).trans hbe2
              have HBF := Lib.hid hbf
              clear hbf
              go_roundw
              case rel => first | exact ⟨q + 1, _, by omega, by go_num, rfl, r ++ [v], HBF.out, by rw [List.length_append, HRL.out.1]; rfl, numc_snoc HRL.out.2 HV.out, by unfold fvs at hown2 ⊢; rw [List.map_append]; exact hown2⟩ | exact ⟨q + 1, by omega, by go_num, r ++ [v], HBF.out, by rw [List.length_append, HRL.out.1]; rfl, numc_snoc HRL.out.2 HV.out, by unfold fvs at hown2 ⊢; rw [List.map_append]; exact hown2⟩
              case measure => simp [intOf]; omega
            · have hown1 : Owns (wr.alloc (.cells #[.int .i64 0, .int .i64 0, .int .i64 0, .string ⟨#[]⟩, .slice none 0 0] 27)) wo.heap.size 27 5 zz (fvs r) := HOQ.out.below ((Below.refl _ _).alloc (Nat.le_refl _) _)
              go_wp2_with (at_builtin; refine wpList_append_box _ rfl (.tmp 51) (.tmp 53) 29 rfl wo.heap.size 27 _ 5 64 Tryz.underlying29 infoV rfl (by decide) zz (fvs r) (by rfl) (by exact hown1) #[.int .i64 0, .int .i64 0, .int .i64 0, .string ⟨#[]⟩, .slice none 0 0] rfl 1 _ (by rfl) (by simp) (by exact Fv.one ⟨0, 0, 0, ⟨#[]⟩⟩) hlk (by decide) (by simp; omega) ?_; intro v' w2 hown2 hg2 hat2 hbe2)
              have HBF := Lib.hid ((hbq.alloc hszq _).trans hbe2)
              go_roundw
              case rel => first | exact ⟨q + 1, _, by omega, by go_num, rfl, r ++ [⟨0, 0, 0, ⟨#[]⟩⟩], HBF.out, by rw [List.length_append, HRL.out.1]; rfl, numc_snoc HRL.out.2 numc_zero, by unfold fvs at hown2 ⊢; rw [List.map_append]; exact hown2⟩ | exact ⟨q + 1, by omega, by go_num, r ++ [⟨0, 0, 0, ⟨#[]⟩⟩], HBF.out, by rw [List.length_append, HRL.out.1]; rfl, numc_snoc HRL.out.2 numc_zero, by unfold fvs at hown2 ⊢; rw [List.map_append]; exact hown2⟩
              case measure => simp [intOf]; omega
          · have hqe : q = 1 + C0 := by omega
            subst hqe
            have hrow1 : RowIs 5 wr (New wo.heap.size wr) zz (fvs r) := HOQ.out.rowIs (by intro h; have := HRL.out.1; rw [show r = [] by simpa [fvs] using h] at this; simp at this <;> omega)
            obtain ⟨h0, g5, off5, c5, rfl, hS5, hrow5⟩ := hrow1
            have hle : (fvs r).length = 1 + C0 := by rw [fvs, List.length_map]; exact HRL.out.1
            rw [hle]
            have HR5 : Hid (RowIs 5 wr (New wo.heap.size wr) (.slice (some ⟨g5, off5, none⟩) (1 + C0) c5) (fvs r)) := Lib.hid ⟨h0, g5, off5, c5, by rw [hle], hS5, hrow5⟩
            have hown1 : Owns wr (w.heap.size + 1) 29 1 y (G.map (KRow 5).cells) := (HM.out.below hbq).1
            have hlk2 : (G.map (KRow 5).cells).length ≤ 1000000 := by rw [List.length_map, HM.out.len, List.length_map, HML.out.1]; omega
            clear h0 hS5 hrow5 hle
            go_wp2_with (at_builtin; refine wpList_append_box wr rfl (.tmp 55) (.tmp 57) 25 rfl (w.heap.size + 1) 29 _ 1 24 Tryz.underlying25 infoVs rfl (by decide) y (G.map (KRow 5).cells) (by rfl) (by exact hown1) #[.slice (some ⟨g5, off5, none⟩) (1 + C0) c5] rfl 1 _ (by rfl) (by simp) (by exact one_slice _ _ _) hlk2 (by decide) (by omega) ?_; intro v' w2 hown2 hg2 hat2 hbe2)
            have hpush := HM.out.push (K := KRow 5) (g := .slice (some ⟨g5, off5, none⟩) (1 + C0) c5) (m := fvs r) (by omega) hbq HR5.out hown2 hg2 (hat2.elim .inl fun h => .inr ⟨_, h, by simp⟩)
            have HPU := Lib.hid hpush
            clear hpush
            go_roundw
            case rel => first | exact ⟨k + 1, _, by omega, by go_num, rfl, G ++ [.slice (some ⟨g5, off5, none⟩) (1 + C0) c5], M ++ [r], HA.out.step HPU.out.2, by rw [List.length_append, HML.out.1]; rfl, rows_snocN HML.out.2 HRL.out.1 HRL.out.2, by rw [List.map_append]; exact HPU.out.1⟩ | exact ⟨k + 1, by omega, by go_num, G ++ [.slice (some ⟨g5, off5, none⟩) (1 + C0) c5], M ++ [r], HA.out.step HPU.out.2, by rw [List.length_append, HML.out.1]; rfl, rows_snocN HML.out.2 HRL.out.1 HRL.out.2, by rw [List.map_append]; exact HPU.out.1⟩
            case measure => simp [intOf]; omega
      · have hkn : k = R := by omega
        subst hkn
        obtain ⟨g, cap, rfl, hg, hrs⟩ := rows_out HM.out (by intro h; have := HML.out.1; rw [show M = [] by simpa using h] at this; simp at this <;> omega)
        have HS := Lib.hid hrs
        have HK := Lib.hid hg
        clear hrs hg
        go_wp2_with fail
        refine (table_any _ _ _ _).mono ?_
        rintro e w1 ⟨rfl, hb1⟩
        have z0 := (tab_zero HA.out).below hb1
        obtain ⟨z, q0, q1, q2, q3, q4, qf⟩ := z0
        have HBW := Lib.hid (HA.out.2.trans (hb1.mono HA.out.2.size))
        have HRS : Hid (RowsIs 5 w1 (New (w.heap.size + 1) w1) (some ⟨g, 0, none⟩) (M.map fvs).length (M.map fvs)) := Lib.hid ((HS.out.keep (Keep.below hb1 fun _ hq => hq.2)).more fun q hq => ⟨hq.1, Nat.lt_of_lt_of_le hq.2 hb1.size⟩)
        clear hb1
        go_wp2
        exact bodyPost_ret (v := (.agg #[.int .i64 5, .int .i64 0, .int .i64 0, .string ⟨#[]⟩, .slice (some ⟨g, 0, none⟩) (M.map fvs).length cap])) (by simp [results, Tryz.results9, go_sem, z, q0, q1, q2, q3, q4, qf]) rfl ⟨_, _, cap, M, rfl, (HRS.out.keep (by repeat' (first | with_reducible exact Keep.refl _ _ | with_reducible refine Keep.set ?_ (ne_new1 _ _) _))).more (fun q hq => ⟨by have := hq.1; omega, by simp only [size_setCell]; exact hq.2⟩), ⟨by intro h; have := HML.out.1; rw [h] at this; simp at this <;> omega, by rw [HML.out.1]; omega, 1 + C0, by omega, by omega, HML.out.2⟩, below5 HBW.out (Nat.le_refl _)⟩
end

/- numbered: whole numbers as a table. -/
section
open Go.RowKit
set_option maxRecDepth 100000
set_option maxHeartbeats 1000000

/-- What an argument gives the law. -/
def IntsIn (w : World) (A : Option Addr) (c : Nat) (X : List Int) : Prop := Src w w.heap.size A 1 (X.map fun b => [.int .i64 b])
def mkIt (n : Int) : It := ⟨1, n, ⟨#[]⟩⟩
def itms (X : List Int) : List (List Value) := (X.map mkIt).map It.cells
theorem itms_len (X : List Int) : (itms X).length = X.length := by unfold itms; rw [List.length_map, List.length_map]
theorem itms_snoc (X : List Int) (k : Nat) (x : Int) (h : X[k]? = some x) : itms (X.take (k + 1)) = itms (X.take k) ++ [[.int .i64 1, .int .i64 x, .string ⟨#[]⟩]] := by
  unfold itms
  rw [List.take_add_one, h]
  simp [mkIt, It.cells]
theorem infoItem : ((Tryz.prog.info? 54)).map (fun i => (i.zero, i.size, i.bytes)) = some (some (.agg #[.int .i64 0, .int .i64 0, .string ⟨#[]⟩]), 3, 32) := by kernel_rfl
theorem Owns.src2 {w : World} {base : Nat} {e : TypeId} {size : Nat} {v : Value} {cs : List (List Value)} (h : Owns w base e size v cs) : ∃ A cap, v = .slice A cs.length cap ∧ Src w w.heap.size A size cs ∧ cs.length ≤ cap ∧ cap ≤ maxLen := by
  rcases h.1.2 with ⟨rfl, h0⟩ | ⟨g, cap, cur, rfl, _, _, h1, h2, _⟩
  · have : cs = [] := List.eq_nil_of_length_eq_zero h0
    subst this
    exact ⟨none, 0, rfl, .inl rfl, Nat.le_refl _, Nat.zero_le _⟩
  · obtain ⟨A, cap', he, hs⟩ := h.src
    injection he with e1 e2 e3
    subst e1 e3
    exact ⟨_, cap, rfl, hs, h1, h2⟩

set_option maxHeartbeats 8000000 in
theorem numbered_any (A : Option Addr) (c : Nat) (X : List Int) (cols : Int) (w : World) (hx : IntsIn w A c X) (hlen : X.length ≤ 2147483647) (h1 : -9223372036854775808 ≤ cols) (h2 : cols ≤ 9223372036854775807) :
    Calls Tryz.prog 7 #[.slice A X.length c, .int .i64 cols] w (TablePostN w) := by
  obtain ⟨n, hn⟩ : ∃ n, n = X.length := ⟨_, rfl⟩
  rw [← hn] at hlen ⊢
  have Z0 := Lib.hid (Zero5.new w)
  obtain ⟨wZ, hwZ⟩ : ∃ wZ, wZ = w.alloc (.cells #[.int .i64 0, .int .i64 0, .int .i64 0, .string ⟨#[]⟩, .slice none 0 0] 27) := ⟨_, rfl⟩
  have hbZ : Below w.heap.size w wZ := by rw [hwZ]; exact (Below.refl _ _).alloc (Nat.le_refl _) _
  have hzs : wZ.heap.size = w.heap.size + 1 := by rw [hwZ]; simp
  rw [← hwZ] at Z0
  have HX := Lib.hid (And.intro hx (And.intro hn hbZ))
  have HCB := Lib.hid (And.intro h1 h2)
  have HZS := Lib.hid hzs
  clear hx hn hbZ h1 h2 hzs
  go_enter Tryz.func7, Tryz.ntmps7
  go_wp2_with fail
  rw [← hwZ]
  clear hwZ
  go_loopw [5, 6] (fun v i wr => ∃ (k : Nat) (y : Value), k ≤ n ∧ k ≤ 120 ∧ i = .int .i64 k ∧ y = v ∧ Below wZ.heap.size wZ wr ∧ Owns wr wZ.heap.size 54 3 y (itms (X.take k))) (fun _ i _ => n - (intOf i).toNat)
  case atStart => exact ⟨0, _, Nat.zero_le _, Nat.zero_le _, rfl, rfl, Below.refl _ _, Owns.nil_ _ _ _ _⟩
  case round =>
    obtain ⟨k, y, hk, hk2, rfl, rfl, hbe, hown⟩ := hrel
    have HO := Lib.hid (And.intro hbe hown)
    have hsz := hbe.size
    clear hown
    by_cases hgo : k < n ∧ k < 120
    · obtain ⟨hkn, hk120⟩ := hgo
      obtain ⟨x, hx⟩ : ∃ x, X[k]? = some x := ⟨_, List.getElem?_eq_getElem (by rw [← HX.out.2.1]; exact hkn)⟩
      rcases HX.out.1 with hnil | ⟨b, off, rfl, hb, hrow⟩
      · exfalso
        have : X = [] := List.map_eq_nil_iff.1 hnil
        subst this
        simp at hx
      have hbw := HX.out.2.2.trans (hbe.mono HX.out.2.2.size)
      have hR := (hrow.below hbw hb) k [.int .i64 x] (by rw [List.getElem?_map, hx]; rfl)
      have c0 : wr.cell? ⟨b, off + k, none⟩ = some (.int .i64 x) := by simpa using hR.2 0 _ rfl
      have hbr : b < wr.heap.size := Nat.lt_of_lt_of_le hb hbw.size
      have hlk : (itms (X.take k)).length ≤ 1000000 := by rw [itms_len, List.length_take]; omega
      have HXK := Lib.hid (itms_snoc X k x hx)
      clear hx hrow hR hbw hbe
      go_wp2_with (at_builtin; refine wpList_append_box wr rfl (.tmp 17) (.tmp 23) 31 rfl wZ.heap.size 54 _ 3 32 Tryz.underlying31 infoItem rfl (by decide) y (itms (X.take k)) (by rfl) (by exact HO.out.2) #[.int .i64 1, .int .i64 x, .string ⟨#[]⟩] rfl 1 _ (by rfl) (by simp) (by intro u hu; simp at hu; rcases hu with rfl | rfl | rfl <;> rfl) hlk (by decide) hsz ?_; intro v' w2 hown2 hg2 hat2 hbe2)
      have HB := Lib.hid (And.intro (HO.out.1.trans hbe2) hown2)
      clear hown2 hg2 hat2 hbe2
      go_roundw
      case rel => exact ⟨k + 1, _, by omega, by omega, by go_num, rfl, HB.out.1, by rw [HXK.out]; exact HB.out.2⟩
      case measure => simp [intOf]; omega
    · obtain ⟨yA, yc, rfl, hsrc, hyc, hym⟩ := HO.out.2.src2
      have hyl : (itms (X.take k)).length = k := by rw [itms_len, List.length_take]; have := HX.out.2.1; omega
      rw [hyl] at hyc ⊢
      have htb := tableN_few yA yc ((X.take k).map mkIt) cols wr hsrc (by rw [List.length_map, List.length_take]; omega) (by rw [List.length_map, List.length_take]; omega) (by simp [maxLen] at hym; omega) (by intro x hx; obtain ⟨n, _, rfl⟩ := List.mem_map.1 hx; rfl) HCB.out.1 HCB.out.2 (by rw [List.length_map, List.length_take]; omega)
      rw [List.length_map, show (X.take k).length = k by rw [List.length_take]; have := HX.out.2.1; omega] at htb
      have HTB := Lib.hid htb
      have hstop : ¬ k < n ∨ (k < n ∧ ¬ k < 120) := by omega
      clear htb hsrc hyc hym hyl hgo
      rcases hstop with hs | ⟨hs, hs2⟩
      all_goals
        go_wp2_with fail
        refine HTB.out.mono ?_
        rintro e w3 ⟨A3, m3, c3, rows, rfl, hr3, hrect, hb3⟩
        have hbw3 := HO.out.1.trans (hb3.mono hsz)
        obtain ⟨q, q0, q1, q2, q3, q4, qf⟩ := Z0.out.below hbw3
        have HF := Lib.hid (And.intro hr3 (And.intro hrect (HX.out.2.2.trans (hbw3.mono HX.out.2.2.size))))
        clear hr3 hrect hb3 hbw3 hbe
        go_wp2
        exact bodyPost_ret (v := (.agg #[.int .i64 5, .int .i64 0, .int .i64 0, .string ⟨#[]⟩, .slice A3 m3 c3])) (by simp [results, Tryz.results7, go_sem, q, q0, q1, q2, q3, q4, qf]) rfl ⟨A3, m3, c3, rows, rfl, (HF.out.1.keep ((((((Keep.refl _ _).set (by intro q hq; have h := hq.1; have := HZS.out; show q ≠ w.heap.size; omega) _).set (by intro q hq; have h := hq.1; have := HZS.out; show q ≠ w.heap.size; omega) _).set (by intro q hq; have h := hq.1; have := HZS.out; show q ≠ w.heap.size; omega) _).set (by intro q hq; have h := hq.1; have := HZS.out; show q ≠ w.heap.size; omega) _).set (by intro q hq; have h := hq.1; have := HZS.out; show q ≠ w.heap.size; omega) _)).more (by intro q hq; have h := hq.1; have := HZS.out; exact ⟨by omega, by simp only [size_setCell]; exact hq.2⟩), HF.out.2.1, below5 HF.out.2.2 (Nat.le_refl _)⟩
end

end Go.Proofs.YtdpkjhohklfieaaGreat
