/- blank: how many cells of a range are empty; what functions of one range share. -/
import Derived.Test.YtdpkjhohklfieaaGreatSc
set_option linter.unusedSimpArgs false
set_option linter.unusedVariables false
namespace Go.Proofs.YtdpkjhohklfieaaGreat
open Go.RowKit
set_option maxRecDepth 100000
set_option maxHeartbeats 1000000

def BlankW (xs : List Fv) (y : Fv) : Prop := y = doubtFv ∨ (y = ⟨1, ((xs.length - kn xs : Nat) : Int), 1, ⟨#[]⟩⟩ ∧ ∀ x ∈ xs, x.k ≠ 4 ∧ x.k ≠ 6)
def BlankPost (xs : List Fv) (w : World) (e : Ending) (w' : World) : Prop := ∃ y, BlankW xs y ∧ e = .returned (.agg #[.int .i64 y.k, .int .i64 y.n, .int .i64 y.d, .string y.s, .slice none 0 0]) ∧ Below w.heap.size w w'

theorem src_ints (w : World) (t : TypeId) (ls : List Int) (cs : Array Value) (g B : Nat) (hcs : cs.toList = ls.map fun l => Value.int .i64 l) (hg : g = w.heap.size) (hB : g < B) : Src (w.alloc (.cells cs t)) B (some ⟨g, 0, none⟩) 1 (ls.map fun l => [.int .i64 l]) := by
  subst hg
  refine .inr ⟨_, 0, rfl, hB, ?_⟩
  intro i c hi
  obtain ⟨l, hl, rfl⟩ := Option.map_eq_some_iff.1 (by rw [List.getElem?_map] at hi; exact hi)
  refine ⟨rfl, fun j v hj => ?_⟩
  match j, hj with
  | 0, hj =>
    simp at hj
    subst hj
    rw [(Blk.new w t _).cell]
    rw [← Array.getElem?_toList, hcs]
    simp [hl]
  | j + 1, hj => simp at hj

/-- The one range that a function is called with, in memory. -/
theorem one_range {w : World} {b off : Nat} {v : Ve} {m : Mv} (h : ArgsIn w b off [v] [m]) : b < w.heap.size ∧ w.cell? ⟨b, off, none⟩ = some (.int .i64 v.x.k) ∧ w.cell? ⟨b, off + 1, none⟩ = some (.int .i64 v.x.n) ∧ w.cell? ⟨b, off + 2, none⟩ = some (.int .i64 v.x.d) ∧
    w.cell? ⟨b, off + 3, none⟩ = some (.string v.x.s) ∧ w.cell? ⟨b, off + 4, none⟩ = some (.slice v.A v.m v.c) ∧ VIs w (· < w.heap.size) v m ∧ m.Ok := by
  obtain ⟨hb, hr, hall, hok⟩ := h
  have hR := (hr 0 v.cells rfl).2
  exact ⟨hb, by simpa using hR 0 _ rfl, by simpa using hR 1 _ rfl, by simpa using hR 2 _ rfl, by simpa using hR 3 _ rfl, by simpa using hR 4 _ rfl, hall.2 0 v m rfl rfl, hok m (List.mem_cons_self ..)⟩
theorem flatAll_one (m : Mv) : flatAll [m] = flatM m := by simp [flatAll]

set_option maxHeartbeats 4000000 in
theorem blank_any (b off c : Nat) (v : Ve) (m : Mv) (w : World) (hargs : ArgsIn w b off [v] [m]) (h5 : v.x.k = 5) (htot : (flatM m).length ≤ 1000) (hk5 : ∀ x ∈ flatM m, x.Ok) :
    Calls Tryz.prog 79 #[.slice (some ⟨b, off, none⟩) 1 c] w (BlankPost (flatM m) w) := by
  obtain ⟨hb, c0, c1, c2, c3, c4, hv, hm⟩ := one_range hargs
  rw [h5] at c0
  have Z0 := Lib.hid (Zero5.new w)
  have HA := Lib.hid hargs
  have HV := Lib.hid (And.intro hv (And.intro hm h5))
  have HK := Lib.hid hk5
  have hbA : Below w.heap.size w (w.alloc (.cells #[.int .i64 0, .int .i64 0, .int .i64 0, .string ⟨#[]⟩, .slice none 0 0] 27)) := (Below.refl _ _).alloc (Nat.le_refl _) _
  have hbB : Below w.heap.size w ((w.alloc (.cells #[.int .i64 0, .int .i64 0, .int .i64 0, .string ⟨#[]⟩, .slice none 0 0] 27)).alloc (.cells #[.int .i64 1, .int .i64 2, .int .i64 3, .int .i64 0] 3)) := hbA.alloc (by simp) _
  have HB := Lib.hid hbB
  clear hv hm hargs h5 hk5
  go_enter Tryz.func79, Tryz.ntmps79
  go_wp2_with fail
  have hkin := kinds_mat v m (some ⟨w.heap.size + 1, 0, none⟩) 4 [1, 2, 3, 0] ((w.alloc (.cells #[.int .i64 0, .int .i64 0, .int .i64 0, .string ⟨#[]⟩, .slice none 0 0] 27)).alloc (.cells #[.int .i64 1, .int .i64 2, .int .i64 3, .int .i64 0] 3))
    (KV.on HV.out.1 HB.out) HV.out.2.1 HV.out.2.2 (by omega) (by simp) (src_ints _ 3 [1, 2, 3, 0] #[.int .i64 1, .int .i64 2, .int .i64 3, .int .i64 0] _ _ rfl (by simp) (by simp))
  rw [HV.out.2.2] at hkin
  refine hkin.mono ?_
  clear hkin
  rintro e w1 ⟨rfl, hb1⟩
  have hbw := hbB.trans (hb1.mono (by simp; omega))
  have Z1 := Lib.hid ((Z0.out.below ((Below.refl _ _).alloc (Nat.le_refl _) _)).below hb1)
  clear hb1 hbB hbA HB c0 c1 c2 c3 c4
  cases kindsB [1, 2, 3, 0] (flatM m)
  · go_wp2_with fail
    refine (doubt_any _).mono ?_
    rintro e w2 ⟨rfl, hb2⟩
    obtain ⟨z, q0, q1, q2, q3, q4, qf⟩ := Z1.out.below hb2
    have hbw2 := hbw.trans (hb2.mono hbw.size)
    clear hb2
    go_wp2
    exact bodyPost_ret (v := (.agg #[.int .i64 6, .int .i64 0, .int .i64 0, .string ⟨#[]⟩, .slice none 0 0])) (by simp [results, Tryz.results79, go_sem, z, q0, q1, q2, q3, q4, qf]) rfl ⟨doubtFv, .inl rfl, rfl, below5 hbw2 (Nat.le_refl _)⟩
  · have hfa := flatAll_one m
    have HFA := Lib.hid hfa
    have htot2 : (flatAll [m]).length ≤ 100000 := by rw [hfa]; omega
    have HT2 := Lib.hid htot2
    clear hfa htot2
    go_wp2_with fail
    refine (flat_args b off 1 c [v] [m] w1 rfl (HA.out.below hbw) (by omega) HT2.out).mono ?_
    rw [HFA.out]
    rintro e w2 ⟨zz, rfl, hown, hb2⟩
    have hbw2 := hbw.trans (hb2.mono hbw.size)
    have Z2 := Lib.hid (Z1.out.below hb2)
    obtain ⟨A', cap', rfl, hsrc⟩ := hown.src
    obtain ⟨p, hp⟩ : ∃ p, p = (flatM m).length := ⟨_, rfl⟩
    rw [show (fvs (flatM m)).length = p by rw [hp]; simp [fvs]]
    have hpl : p ≤ 1000 := by rw [hp]; exact htot
    have HP := Lib.hid hp
    clear hown hsrc hb2 hp
    go_wp2_with fail
    refine (counta_any b off 1 c [v] [m] w2 rfl (by omega) (HA.out.below hbw2) (by omega) HT2.out (by rw [HFA.out]; exact HK.out)).mono ?_
    rw [HFA.out]
    rintro e w3 ⟨y, hy, rfl, hb3⟩
    have hbw3 := hbw2.trans (hb3.mono hbw2.size)
    have Z3 := Lib.hid (Z2.out.below hb3)
    clear hb3
    rcases hy with hy | ⟨hy, hy46⟩
    · subst hy
      have hbw4 : Below w.heap.size w (w3.alloc (.cells #[.int .i64 6, .int .i64 0, .int .i64 0, .string ⟨#[]⟩, .slice none 0 0] 27)) := hbw3.alloc hbw3.size _
      obtain ⟨z, q0, q1, q2, q3, q4, qf⟩ := Z3.out
      have hne : w.heap.size ≠ w3.heap.size := by omega
      unfold doubtFv
      go_wp2
      exact bodyPost_ret (v := (.agg #[.int .i64 6, .int .i64 0, .int .i64 0, .string ⟨#[]⟩, .slice none 0 0])) (by simp [results, Tryz.results79, go_sem, z, q0, q1, q2, q3, q4, qf]) rfl ⟨doubtFv, .inl rfl, rfl, (by (repeat' (first | with_reducible exact Below.refl _ _ | with_reducible refine Below.setCell ?_ ?_ _ | with_reducible refine Below.alloc ?_ ?_ _ | with_reducible refine Below.drew ?_ | with_reducible refine Below.trans ?_ (Below.mono (by assumption) ?_))); all_goals (first | omega | (simp [World.setCell]; done) | (simp [World.setCell]; omega)))⟩
    · subst hy
      obtain ⟨K, hK⟩ : ∃ K, K = kn (flatM m) := ⟨_, rfl⟩
      have hKp : K ≤ p := by rw [hK, HP.out]; exact kn_le _
      rw [← hK]
      have HKK := Lib.hid hK
      clear hK
      obtain ⟨D, hD⟩ : ∃ D : Nat, p - K = D := ⟨_, rfl⟩
      have hDe : (p : Int) - (K : Int) = (D : Int) := by omega
      have hDl : D ≤ 1000 := by omega
      have HD := Lib.hid hD
      clear hD
      go_wp2_with fail
      refine (int_ok _ _ (by omega) (by omega)).mono ?_
      rintro e w4 ⟨rfl, hb4⟩
      have hbw4 : Below w.heap.size w w4 := (hbw3.alloc hbw3.size _).trans (hb4.mono (by simp; have := hbw3.size; omega))
      obtain ⟨z, q0, q1, q2, q3, q4, qf⟩ := (Z3.out.below ((Below.refl _ _).alloc (Nat.le_refl _) _)).below hb4
      clear hb4
      go_wp2
      exact bodyPost_ret (v := (.agg #[.int .i64 1, .int .i64 D, .int .i64 1, .string ⟨#[]⟩, .slice none 0 0])) (by simp [results, Tryz.results79, go_sem, z, q0, q1, q2, q3, q4, qf]) rfl ⟨⟨1, D, 1, ⟨#[]⟩⟩, .inr ⟨by rw [← HD.out, HP.out, HKK.out], hy46⟩, rfl, below5 hbw4 (Nat.le_refl _)⟩

end Go.Proofs.YtdpkjhohklfieaaGreat
