/- OR: together, the package's OR, both doors, and that all agree. -/
import Derived.Test.YtmlcaamgkgdgoaaGreatOq
import Derived.Test.YtmlcaamgkgdgoaaGreatLs
import Derived.Test.YtmlcaamgkgdgoaaGreatNl
set_option linter.unusedSimpArgs false
set_option linter.unusedVariables false
namespace Go.Proofs.YtmlcaamgkgdgoaaGreat
open Go.RowKit
set_option maxRecDepth 100000
set_option maxHeartbeats 1000000

theorem fitsNumbers_OR (A : Option Addr) (L : List Ve) (c : Nat) (w : World) (hL : Args w A L) :
    Calls Tryz.prog 92 #[.string (⟨#[79, 82]⟩ : ByteArray), .slice A L.length c] w fun e w' => e = .returned (.tuple #[.bool false, .bool false]) ∧ Below w.heap.size w w' := by
  have HE := numeric_all A L c w hL
  go_enter Tryz.func92, Tryz.ntmps92
  go_wp2_with fail
  refine HE.mono ?_
  rintro e w1 ⟨r, rfl, hb1⟩
  go_wp2
  go_ret2
  exact ⟨rfl, hb1⟩

theorem fitsTexts_OR (A : Option Addr) (n c : Nat) (w : World) :
    Calls Tryz.prog 93 #[.string (⟨#[79, 82]⟩ : ByteArray), .slice A n c] w fun e w' => e = .returned (.tuple #[.bool false, .bool false]) ∧ Below w.heap.size w w' := by
  go_enter Tryz.func93, Tryz.ntmps93
  go_wp2
  go_ret2
  exact ⟨rfl, (by (repeat' (first | with_reducible exact Below.refl _ _ | with_reducible refine Below.setCell ?_ ?_ _ | with_reducible refine Below.alloc ?_ ?_ _ | with_reducible refine Below.drew ?_ | with_reducible refine Below.trans ?_ (Below.mono (by assumption) ?_))); all_goals (first | omega | (simp [World.setCell]; done) | (simp [World.setCell]; omega)))⟩

theorem Stat_OR (A : Option Addr) (n c : Nat) (w : World) :
    Calls Tryz.prog 67 #[.string (⟨#[79, 82]⟩ : ByteArray), .slice A n c] w fun e w' => e = .returned (.tuple #[(.agg #[.int .i64 0, .int .i64 0, .int .i64 0, .string ⟨#[]⟩, .slice none 0 0]), .bool false]) ∧ Below w.heap.size w w' := by
  go_enter Tryz.func67, Tryz.ntmps67
  go_wp2
  exact bodyPost_ret (v := (.tuple #[(.agg #[.int .i64 0, .int .i64 0, .int .i64 0, .string ⟨#[]⟩, .slice none 0 0]), .bool false])) (by simp [results, Tryz.results67, go_sem]) rfl ⟨rfl, (by (repeat' (first | with_reducible exact Below.refl _ _ | with_reducible refine Below.setCell ?_ ?_ _ | with_reducible refine Below.alloc ?_ ?_ _ | with_reducible refine Below.drew ?_ | with_reducible refine Below.trans ?_ (Below.mono (by assumption) ?_))); all_goals (first | omega | (simp [World.setCell]; done) | (simp [World.setCell]; omega)))⟩

theorem Criteria_OR (A : Option Addr) (n c : Nat) (w : World) :
    Calls Tryz.prog 68 #[.string (⟨#[79, 82]⟩ : ByteArray), .slice A n c] w fun e w' => e = .returned (.tuple #[(.agg #[.int .i64 0, .int .i64 0, .int .i64 0, .string ⟨#[]⟩, .slice none 0 0]), .bool false]) ∧ Below w.heap.size w w' := by
  go_enter Tryz.func68, Tryz.ntmps68
  go_wp2
  exact bodyPost_ret (v := (.tuple #[(.agg #[.int .i64 0, .int .i64 0, .int .i64 0, .string ⟨#[]⟩, .slice none 0 0]), .bool false])) (by simp [results, Tryz.results68, go_sem]) rfl ⟨rfl, (by (repeat' (first | with_reducible exact Below.refl _ _ | with_reducible refine Below.setCell ?_ ?_ _ | with_reducible refine Below.alloc ?_ ?_ _ | with_reducible refine Below.drew ?_ | with_reducible refine Below.trans ?_ (Below.mono (by assumption) ?_))); all_goals (first | omega | (simp [World.setCell]; done) | (simp [World.setCell]; omega)))⟩

theorem Lookup_OR (A : Option Addr) (n c : Nat) (w : World) :
    Calls Tryz.prog 69 #[.string (⟨#[79, 82]⟩ : ByteArray), .slice A n c] w fun e w' => e = .returned (.tuple #[(.agg #[.int .i64 0, .int .i64 0, .int .i64 0, .string ⟨#[]⟩, .slice none 0 0]), .bool false]) ∧ Below w.heap.size w w' := by
  go_enter Tryz.func69, Tryz.ntmps69
  go_wp2
  exact bodyPost_ret (v := (.tuple #[(.agg #[.int .i64 0, .int .i64 0, .int .i64 0, .string ⟨#[]⟩, .slice none 0 0]), .bool false])) (by simp [results, Tryz.results69, go_sem]) rfl ⟨rfl, (by (repeat' (first | with_reducible exact Below.refl _ _ | with_reducible refine Below.setCell ?_ ?_ _ | with_reducible refine Below.alloc ?_ ?_ _ | with_reducible refine Below.drew ?_ | with_reducible refine Below.trans ?_ (Below.mono (by assumption) ?_))); all_goals (first | omega | (simp [World.setCell]; done) | (simp [World.setCell]; omega)))⟩

theorem CallMath_OR (A : Option Addr) (n c : Nat) (w : World) :
    Calls Tryz.prog 70 #[.string (⟨#[79, 82]⟩ : ByteArray), .slice A n c] w fun e w' => e = .returned (.tuple #[(.agg #[.int .i64 0, .int .i64 0, .int .i64 0, .string ⟨#[]⟩, .slice none 0 0]), .bool false]) ∧ Below w.heap.size w w' := by
  go_enter Tryz.func70, Tryz.ntmps70
  go_wp2
  exact bodyPost_ret (v := (.tuple #[(.agg #[.int .i64 0, .int .i64 0, .int .i64 0, .string ⟨#[]⟩, .slice none 0 0]), .bool false])) (by simp [results, Tryz.results70, go_sem]) rfl ⟨rfl, (by (repeat' (first | with_reducible exact Below.refl _ _ | with_reducible refine Below.setCell ?_ ?_ _ | with_reducible refine Below.alloc ?_ ?_ _ | with_reducible refine Below.drew ?_ | with_reducible refine Below.trans ?_ (Below.mono (by assumption) ?_))); all_goals (first | omega | (simp [World.setCell]; done) | (simp [World.setCell]; omega)))⟩

theorem CallText_OR (A : Option Addr) (n c : Nat) (w : World) :
    Calls Tryz.prog 71 #[.string (⟨#[79, 82]⟩ : ByteArray), .slice A n c] w fun e w' => e = .returned (.tuple #[(.agg #[.int .i64 0, .int .i64 0, .int .i64 0, .string ⟨#[]⟩, .slice none 0 0]), .bool false]) ∧ Below w.heap.size w w' := by
  go_enter Tryz.func71, Tryz.ntmps71
  go_wp2
  exact bodyPost_ret (v := (.tuple #[(.agg #[.int .i64 0, .int .i64 0, .int .i64 0, .string ⟨#[]⟩, .slice none 0 0]), .bool false])) (by simp [results, Tryz.results71, go_sem]) rfl ⟨rfl, (by (repeat' (first | with_reducible exact Below.refl _ _ | with_reducible refine Below.setCell ?_ ?_ _ | with_reducible refine Below.alloc ?_ ?_ _ | with_reducible refine Below.drew ?_ | with_reducible refine Below.trans ?_ (Below.mono (by assumption) ?_))); all_goals (first | omega | (simp [World.setCell]; done) | (simp [World.setCell]; omega)))⟩

/-- How many are true. -/
def tr (L : List Fv) : Nat := (L.filter fun x => x.n != 0).length
theorem tr_step (L : List Fv) (k : Nat) (x : Fv) (h : L[k]? = some x) : tr (L.take (k + 1)) = tr (L.take k) + (if x.n != 0 then 1 else 0) := by
  unfold tr
  rw [List.take_add_one, h]
  simp only [Option.toList, List.filter_append, List.length_append]
  cases hx : x.n != 0 <;> simp [hx]
theorem tr_le (L : List Fv) : tr L ≤ L.length := List.length_filter_le _ _
theorem tr_any (L : List Fv) : decide (0 < tr L) = L.any fun x => x.n != 0 := by
  unfold tr
  induction L with
  | nil => rfl
  | cons x r ih =>
    rw [List.filter_cons, List.any_cons]
    cases x.n != 0
    · simpa using ih
    · simp
/-- All are truths or numbers. -/
def AllTr (L : List Fv) : Prop := ∀ x ∈ L, x.k = 3 ∨ x.k = 1

def TrueAt (L : List Fv) (k : Nat) (v : Value) : Prop := ∃ T : Nat, v = .int .i64 T ∧ T = tr (L.take k) ∧ T ≤ k

set_option maxHeartbeats 4000000 in
theorem together_OR (b off c : Nat) (L : List Fv) (w : World) (hrow : Row w b off 5 (fvs L)) (hb : b < w.heap.size) (h0 : 0 < L.length) (h30 : L.length ≤ 30) (hT : AllTr L) :
    Calls Tryz.prog 148 #[.string (⟨#[79, 82]⟩ : ByteArray), .slice (some ⟨b, off, none⟩) L.length c] w fun e w' => e = .returned (.agg #[.int .i64 3, .int .i64 (if (L.any fun x => x.n != 0) then 1 else 0), .int .i64 0, .string ⟨#[]⟩, .slice none 0 0]) ∧ Below w.heap.size w w' := by
  obtain ⟨R, hR⟩ : ∃ R : Int, R = (if (L.any fun x => x.n != 0) then 1 else 0) := ⟨_, rfl⟩
  rw [← hR]
  have HRR := Lib.hid hR
  clear hR
  have hbA : Below w.heap.size w (w.alloc (.cells #[.int .i64 0, .int .i64 0, .int .i64 0, .string ⟨#[]⟩, .slice none 0 0] 28)) := (Below.refl _ _).alloc (Nat.le_refl _) _
  have hf := flat_any 1 w.heap.size (some ⟨b, off, none⟩) c (leafs L) (w.alloc (.cells #[.int .i64 0, .int .i64 0, .int .i64 0, .string ⟨#[]⟩, .slice none 0 0] 28)) (by simp [leafs]; omega) (by rw [leafs_cells]; exact .inr ⟨b, off, rfl, hb, hrow.below hbA hb⟩) hbA.size
    (by intro e he; obtain ⟨x, hx, rfl⟩ := List.mem_map.1 he; exact leads_leaf x (by rcases hT x hx with h | h <;> rw [h] <;> decide)) (by rw [leafs_leaves]; omega)
  rw [leafs_leaves, show (leafs L).length = L.length by simp [leafs]] at hf
  obtain ⟨n, hn⟩ : ∃ n, n = L.length := ⟨_, rfl⟩
  rw [← hn] at hf h0 h30
  rw [← hn]
  have HN := Lib.hid hn
  have HF := Lib.hid hf
  have Z0 := Lib.hid (Zero5.new w)
  have HT := Lib.hid hT
  have HBA := Lib.hid hbA
  clear hf hn hrow hT hbA
  go_enter Tryz.func148, Tryz.ntmps148
  go_wp2_with fail
  refine HF.out.mono ?_
  rintro e w1 ⟨v, rfl, hown, hb1⟩
  have hbw1 := HBA.out.trans (hb1.mono HBA.out.size)
  have Z1 := Lib.hid (Z0.out.below hb1)
  obtain ⟨A', cap', rfl, hsrc⟩ := hown.src
  rw [show (fvs L).length = n by rw [HN.out]; simp [fvs]]
  have HS := Lib.hid hsrc
  clear hown hsrc hb1 HF
  have HFN : Hid (Calls Tryz.prog 225 #[.slice A' n cap'] w1 fun e w' => e = .returned (.tuple #[(.agg #[.int .i64 0, .int .i64 0, .int .i64 0, .string ⟨#[]⟩, .slice none 0 0]), .bool false]) ∧ Below w1.heap.size w1 w') := by
    have := first_none A' cap' L w1 HS.out (by have := HN.out; omega) (fun x hx => by rcases HT.out x hx with h | h <;> rw [h] <;> decide)
    rw [← HN.out] at this
    exact Lib.hid this
  go_wp2_with fail
  refine HFN.out.mono ?_
  rintro e w2 ⟨rfl, hb2⟩
  have hbw2 : Below w.heap.size w (w2.alloc (.cells #[.int .i64 0, .int .i64 0, .int .i64 0, .string ⟨#[]⟩, .slice none 0 0] 28)) := (hbw1.trans (hb2.mono hbw1.size)).alloc (Nat.le_trans hbw1.size hb2.size) _
  have hb12 : Below w1.heap.size w1 (w2.alloc (.cells #[.int .i64 0, .int .i64 0, .int .i64 0, .string ⟨#[]⟩, .slice none 0 0] 28)) := hb2.alloc hb2.size _
  have Z2 := Lib.hid (Z1.out.below hb12)
  have HB2 := Lib.hid (And.intro hbw2 hb12)
  obtain ⟨W, hW⟩ : ∃ W, W = w2.alloc (.cells #[.int .i64 0, .int .i64 0, .int .i64 0, .string ⟨#[]⟩, .slice none 0 0] 28) := ⟨_, rfl⟩
  clear hb2 HFN hbw2 hb12
  go_wp2_with fail
  rw [← hW] at HB2 Z2 ⊢
  clear hW
  go_loop [7, 8, 9] (fun t a i => ∃ k : Nat, k ≤ n ∧ i = .int .i64 k ∧ a = .int .i64 k ∧ TrueAt L k t) (fun _ _ i => n - (intOf i).toNat)
  case atStart => exact ⟨0, Nat.zero_le _, rfl, rfl, 0, rfl, rfl, Nat.zero_le _⟩
  case round =>
    obtain ⟨k, hk, rfl, rfl, T, rfl, hT, hTl⟩ := hrel
    have HTT := Lib.hid hT
    clear hT
    by_cases hlt : k < n
    · obtain ⟨x, hx⟩ : ∃ x, L[k]? = some x := ⟨_, List.getElem?_eq_getElem (by rw [← HN.out]; exact hlt)⟩
      rcases HS.out with hnil | ⟨b1, off1, rfl, hb1, hrow1⟩
      · exfalso
        have : L = [] := by simpa [fvs] using hnil
        rw [this] at hx; simp at hx
      have hR := (hrow1.below HB2.out.2 hb1) k x.cells (by simp [fvs, hx])
      have c0 : W.cell? ⟨b1, off1 + k * 5, none⟩ = some (.int .i64 x.k) := hR.2 0 _ rfl
      have c1 : W.cell? ⟨b1, off1 + k * 5 + 1, none⟩ = some (.int .i64 x.n) := hR.2 1 _ rfl
      have hstep := tr_step L k x hx
      have HST := Lib.hid hstep
      have hxk := HT.out x (List.mem_of_getElem? hx)
      clear hx hrow1 hR hstep
      cases hn0 : x.n != 0
      · have HN0 := Lib.hid hn0
        rcases hxk with h | h
        · rw [h] at c0
          clear h
          go_wp2_with fail
          go_round
          case rel => exact ⟨k + 1, by omega, by go_num, by go_num, T, rfl, by rw [HST.out, HN0.out, HTT.out]; simp, by omega⟩
          case measure => simp [intOf]; omega
        · rw [h] at c0
          clear h
          go_wp2_with fail
          go_round
          case rel => exact ⟨k + 1, by omega, by go_num, by go_num, T, rfl, by rw [HST.out, HN0.out, HTT.out]; simp, by omega⟩
          case measure => simp [intOf]; omega
      · have HN0 := Lib.hid hn0
        rcases hxk with h | h
        · rw [h] at c0
          clear h
          go_wp2_with fail
          go_round
          case rel => exact ⟨k + 1, by omega, by go_num, by go_num, T + 1, by go_num, by rw [HST.out, HN0.out, HTT.out]; simp, by omega⟩
          case measure => simp [intOf]; omega
        · rw [h] at c0
          clear h
          go_wp2_with fail
          go_round
          case rel => exact ⟨k + 1, by omega, by go_num, by go_num, T + 1, by go_num, by rw [HST.out, HN0.out, HTT.out]; simp, by omega⟩
          case measure => simp [intOf]; omega
    · obtain rfl : k = n := by omega
      have hfin : decide (0 < T) = L.any fun x => x.n != 0 := by
        rw [← tr_any]
        have := HTT.out
        rw [List.take_of_length_le (by rw [HN.out]; exact Nat.le_refl _)] at this
        rw [this]
      have HFI := Lib.hid hfin
      have hk0 : ((k : Int) == 0) = false := by rw [beq_eq_false_iff_ne]; omega
      clear hfin
      by_cases hT0 : 0 < T
      · have HV := HFI.out
        rw [decide_eq_true hT0] at HV
        replace HV := Lib.hid HV
        go_wp2_with fail
        go_fit (bool_any true _)
        rintro e w3 ⟨rfl, hb3⟩
        obtain ⟨z, q0, q1, q2, q3, q4, qf⟩ := Z2.out.below hb3
        have hbw3 := HB2.out.1.trans (hb3.mono HB2.out.1.size)
        clear hb3
        go_wp2
        exact bodyPost_ret (v := (.agg #[.int .i64 3, .int .i64 1, .int .i64 0, .string ⟨#[]⟩, .slice none 0 0])) (by simp [results, Tryz.results148, go_sem, z, q0, q1, q2, q3, q4, qf]) rfl ⟨by rw [show R = 1 from by rw [HRR.out, ← HV.out]; rfl], below5 hbw3 (Nat.le_refl _)⟩
      · have HV := HFI.out
        rw [decide_eq_false hT0] at HV
        replace HV := Lib.hid HV
        go_wp2_with fail
        go_fit (bool_any false _)
        rintro e w3 ⟨rfl, hb3⟩
        obtain ⟨z, q0, q1, q2, q3, q4, qf⟩ := Z2.out.below hb3
        have hbw3 := HB2.out.1.trans (hb3.mono HB2.out.1.size)
        clear hb3
        go_wp2
        exact bodyPost_ret (v := (.agg #[.int .i64 3, .int .i64 0, .int .i64 0, .string ⟨#[]⟩, .slice none 0 0])) (by simp [results, Tryz.results148, go_sem, z, q0, q1, q2, q3, q4, qf]) rfl ⟨by rw [show R = 0 from by rw [HRR.out, ← HV.out]; rfl], below5 hbw3 (Nat.le_refl _)⟩

end Go.Proofs.YtmlcaamgkgdgoaaGreat

