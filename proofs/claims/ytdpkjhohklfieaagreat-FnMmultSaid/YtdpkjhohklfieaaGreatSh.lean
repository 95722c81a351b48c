/- The shape of a range: Shape; calcColsRowsMinMax; ROWS, COLUMNS in the package. -/
import Derived.Test.YtdpkjhohklfieaaGreatNm
import Derived.Test.YtdpkjhohklfieaaGreatLa
import Derived.Test.YtdpkjhohklfieaaGreatLs
set_option linter.unusedSimpArgs false
set_option linter.unusedVariables false
namespace Go.Proofs.YtdpkjhohklfieaaGreat
open Go.RowKit
set_option maxRecDepth 100000
set_option maxHeartbeats 1000000

theorem Below.dNN {B : Nat} {a w : World} (h : Below B a w) (n : Nat) : Below B a (w.drewN n) := h.trans ⟨rfl, rfl, rfl, Nat.le_refl _, fun _ _ => rfl⟩

@[go_sem] theorem assert_cr (x : Value) (W : World) : (Instr.typeAssert (.iface 123 x) 20 123 false).run Tryz.prog W = .ok x W := by kernel_rfl
@[go_sem] theorem field_q (A : Option Addr) (n c P Q : Nat) (W : World) : (Instr.field 67 (.agg #[.string ⟨#[]⟩, .float .f64 0, .string ⟨#[]⟩, .slice none 0 0, .slice A n c, .bool false, .string ⟨#[]⟩, .int .u8 4, .pointer (some ⟨P, 0, none⟩), .pointer (some ⟨Q, 0, none⟩)]) 9).run Tryz.prog W = .ok (.pointer (some ⟨Q, 0, none⟩)) W := by kernel_rfl
@[go_sem] theorem field_p (A : Option Addr) (n c P Q : Nat) (W : World) : (Instr.field 67 (.agg #[.string ⟨#[]⟩, .float .f64 0, .string ⟨#[]⟩, .slice none 0 0, .slice A n c, .bool false, .string ⟨#[]⟩, .int .u8 4, .pointer (some ⟨P, 0, none⟩), .pointer (some ⟨Q, 0, none⟩)]) 8).run Tryz.prog W = .ok (.pointer (some ⟨P, 0, none⟩)) W := by kernel_rfl
@[go_sem] theorem field_from (a b c d : Int) (s t : ByteArray) (W : World) : (Instr.field 123 (.agg #[.int .i64 a, .int .i64 b, .string s, .int .i64 c, .int .i64 d, .string t]) 0).run Tryz.prog W = .ok (.agg #[.int .i64 a, .int .i64 b, .string s]) W := by kernel_rfl
@[go_sem] theorem field_to (a b c d : Int) (s t : ByteArray) (W : World) : (Instr.field 123 (.agg #[.int .i64 a, .int .i64 b, .string s, .int .i64 c, .int .i64 d, .string t]) 1).run Tryz.prog W = .ok (.agg #[.int .i64 c, .int .i64 d, .string t]) W := by kernel_rfl

theorem shape_any (A : Option Addr) (m c : Nat) (r : List Fv) (rs : List (List Fv)) (w : World) (h : RowsIs 5 w (· < w.heap.size) A m ((r :: rs).map fvs)) :
    Calls Tryz.prog 95 #[(.agg #[.int .i64 5, .int .i64 0, .int .i64 0, .string ⟨#[]⟩, .slice A m c])] w fun e w' => e = .returned (.tuple #[.int .i64 m, .int .i64 r.length]) ∧ Below w.heap.size w w' := by
  obtain ⟨_, hm, b, off, rfl, hb, hrow⟩ := h
  obtain ⟨hh, hc, _, b2, off2, c2, rfl, hb2, _⟩ := hrow 0 (fvs r) (by simp)
  have hl : (fvs r).length = r.length := by simp [fvs]
  rw [hl] at hc
  have hm0 : ((m : Int) == 0) = false := by rw [beq_eq_false_iff_ne]; simp at hm; omega
  have hmp : 0 < m := by simp at hm; omega
  have hc1 : (w.alloc (.cells #[.int .i64 5, .int .i64 0, .int .i64 0, .string ⟨#[]⟩, .slice (some ⟨b, off, none⟩) m c] 27)).cell? ⟨b, off, none⟩ = some (.slice (some ⟨b2, off2, none⟩) r.length c2) := (World.cell?_alloc_lt _ _ _ hb).trans (by simpa using hc)
  clear hm hrow hc hl
  go_enter Tryz.func95, Tryz.ntmps95
  go_wp2_with fail
  go_quiet (fail)
  go_wp2
  go_ret2
  exact ⟨rfl, by (repeat' (first | with_reducible exact Below.refl _ _ | with_reducible refine Below.setCell ?_ ?_ _ | with_reducible refine Below.alloc ?_ ?_ _ | with_reducible refine Below.dNN ?_ _)); all_goals omega⟩


theorem getval_true (col row : Int) (s : ByteArray) (w : World) :
    Calls Tryz.prog 132 #[.bool true, .agg #[.int .i64 col, .int .i64 row, .string s]] w fun e w' => e = .returned (.int .i64 col) ∧ Below w.heap.size w w' := by
  go_enter Tryz.func132, Tryz.ntmps132
  go_wp2
  go_ret
  exact ⟨rfl, (by (repeat' (first | with_reducible exact Below.refl _ _ | with_reducible refine Below.setCell ?_ ?_ _ | with_reducible refine Below.alloc ?_ ?_ _ | with_reducible refine Below.drew ?_ | with_reducible refine Below.trans ?_ (Below.mono (by assumption) ?_))); all_goals (first | omega | (simp [World.setCell]; done) | (simp [World.setCell]; omega)))⟩


theorem getval_false (col row : Int) (s : ByteArray) (w : World) :
    Calls Tryz.prog 132 #[.bool false, .agg #[.int .i64 col, .int .i64 row, .string s]] w fun e w' => e = .returned (.int .i64 row) ∧ Below w.heap.size w w' := by
  go_enter Tryz.func132, Tryz.ntmps132
  go_wp2
  go_ret
  exact ⟨rfl, (by (repeat' (first | with_reducible exact Below.refl _ _ | with_reducible refine Below.setCell ?_ ?_ _ | with_reducible refine Below.alloc ?_ ?_ _ | with_reducible refine Below.drew ?_ | with_reducible refine Below.trans ?_ (Below.mono (by assumption) ?_))); all_goals (first | omega | (simp [World.setCell]; done) | (simp [World.setCell]; omega)))⟩


set_option maxHeartbeats 4000000 in
theorem calc_true (LB E : Nat) (A : Option Addr) (n c P Q C R : Nat) (w : World) (h : List1 w LB E (.iface 67 (FMat A n c P Q))) (hP : ListIs w (· < w.heap.size) P []) (hQ : ListIs w (· < w.heap.size) Q [cellsOf C R]) (h0 : 0 < C) :
    Calls Tryz.prog 59 #[.bool true, .pointer (some ⟨LB, 0, none⟩)] w fun e w' => e = .returned (.tuple #[.int .i64 1, .int .i64 C]) ∧ Below w.heap.size w w' := by
  obtain ⟨hlt, hlte, r0, r1, r4, e0, e2, e3⟩ := h
  obtain ⟨hPl, esP, hlP, _⟩ := hP
  obtain ⟨_, esQ, hlQ, _⟩ := hQ
  obtain ⟨EQ, rfl⟩ : ∃ EQ, esQ = [EQ] := by
    have := hlQ.len
    match esQ, this with
    | [x], _ => exact ⟨x, rfl⟩
  have p4 : w.cell? ⟨P, 4, none⟩ = some (.int .i64 0) := by
    rw [hlP.root.cell, hlP.len]; rfl
  have q0 : w.cell? ⟨Q, 0, none⟩ = some (.pointer (some ⟨EQ, 0, none⟩)) := by rw [hlQ.root.cell]; rfl
  have q4 : w.cell? ⟨Q, 4, none⟩ = some (.int .i64 1) := by rw [hlQ.root.cell]; rfl
  obtain ⟨qq, hqq⟩ := hlQ.node 0 EQ _ rfl rfl
  have f3 : w.cell? ⟨EQ, 3, none⟩ = some (cellsOf C R) := by rw [hqq.cell]; rfl
  have hEQ : EQ < w.heap.size := hqq.lt
  have HLQ := Lib.hid hlQ
  have hcf : ∀ (args : Array Value) (W : World), Sem.run Tryz.prog (callFunc 132 args) W = .ok (.enter 132 args) W := fun args W => by kernel_rfl
  have hx : ((0 : Int) < C) := by omega
  clear hqq hlP hlQ
  unfold FMat at e3
  unfold cellsOf at f3
  go_enter Tryz.func59, Tryz.ntmps59
  go_wp2_with fail
  refine (front_any _ _ _ _ r0 r4 (by decide)).mono ?_
  rintro e v1 ⟨rfl, rfl⟩
  go_wp2_with fail
  refine (front_any _ _ _ _ r0 r4 (by decide)).mono ?_
  rintro e v1 ⟨rfl, rfl⟩
  go_wp2_with fail
  refine (len_any _ _ _ q4).mono ?_
  rintro e v1 ⟨rfl, rfl⟩
  go_wp2_with fail
  refine (front_any _ _ _ _ r0 r4 (by decide)).mono ?_
  rintro e v1 ⟨rfl, rfl⟩
  go_wp2_with fail
  refine (front_any _ _ _ _ q0 q4 (by decide)).mono ?_
  rintro e v1 ⟨rfl, rfl⟩
  go_wp2_with fail
  refine wp_loop_rounds 2 ?_
  rw [rounds_succ]
  go_wp2_with fail
  refine (getval_true _ _ _ _).mono ?_
  rintro e w1 ⟨rfl, hb1⟩
  have f31 := ((bcell hb1).1 _ _ hEQ).trans f3
  have hz1 := hb1.size
  go_wp2_with fail
  refine (getval_true _ _ _ _).mono ?_
  rintro e w2 ⟨rfl, hb2⟩
  have f32 := ((bcell hb2).1 _ _ (Nat.lt_of_lt_of_le hEQ hz1)).trans f31
  have hbw2 := hb1.trans (hb2.mono hz1)
  have hz2 := hbw2.size
  clear f31
  go_wp2_with fail
  refine (getval_true _ _ _ _).mono ?_
  rintro e w3 ⟨rfl, hb3⟩
  have hbw3 := hbw2.trans (hb3.mono hz2)
  have hz3 := hbw3.size
  have hnx := next_any Q [EQ] [cellsOf C R] 0 EQ w3 (HLQ.out.below hbw3) rfl
  rw [elemPtr_none (by simp)] at hnx
  have HNX := Lib.hid hnx
  clear f32 hnx f3
  go_wp2_with fail
  refine HNX.out.mono ?_
  rintro e v1 ⟨rfl, rfl⟩
  have r0' := ((bcell hbw3).1 _ _ hlt).trans r0
  have r4' := ((bcell hbw3).1 _ _ hlt).trans r4
  have e3' := ((bcell hbw3).1 _ _ hlte).trans e3
  have p4' := ((bcell hbw3).1 _ _ hPl).trans p4
  have hlte3 : E < w3.heap.size := Nat.lt_of_lt_of_le hlte hz3
  clear r0 r1 r4 e0 e2 e3 p4 q0 q4 hb1 hb2 hb3 hcf HLQ
  go_wp2_with fail
  rw [rounds_succ]
  go_wp2_with fail
  refine (front_any _ _ _ _ r0' r4' (by decide)).mono ?_
  rintro e v1 ⟨rfl, rfl⟩
  go_wp2_with fail
  refine (front_any _ _ _ _ r0' r4' (by decide)).mono ?_
  rintro e v1 ⟨rfl, rfl⟩
  go_wp2_with fail
  refine (len_any _ _ _ p4').mono ?_
  rintro e v1 ⟨rfl, rfl⟩
  go_wp2
  go_ret2
  exact ⟨rfl, hbw3⟩


set_option maxHeartbeats 4000000 in
theorem calc_false (LB E : Nat) (A : Option Addr) (n c P Q C R : Nat) (w : World) (h : List1 w LB E (.iface 67 (FMat A n c P Q))) (hP : ListIs w (· < w.heap.size) P []) (hQ : ListIs w (· < w.heap.size) Q [cellsOf C R]) (h0 : 0 < R) :
    Calls Tryz.prog 59 #[.bool false, .pointer (some ⟨LB, 0, none⟩)] w fun e w' => e = .returned (.tuple #[.int .i64 1, .int .i64 R]) ∧ Below w.heap.size w w' := by
  obtain ⟨hlt, hlte, r0, r1, r4, e0, e2, e3⟩ := h
  obtain ⟨hPl, esP, hlP, _⟩ := hP
  obtain ⟨_, esQ, hlQ, _⟩ := hQ
  obtain ⟨EQ, rfl⟩ : ∃ EQ, esQ = [EQ] := by
    have := hlQ.len
    match esQ, this with
    | [x], _ => exact ⟨x, rfl⟩
  have p4 : w.cell? ⟨P, 4, none⟩ = some (.int .i64 0) := by
    rw [hlP.root.cell, hlP.len]; rfl
  have q0 : w.cell? ⟨Q, 0, none⟩ = some (.pointer (some ⟨EQ, 0, none⟩)) := by rw [hlQ.root.cell]; rfl
  have q4 : w.cell? ⟨Q, 4, none⟩ = some (.int .i64 1) := by rw [hlQ.root.cell]; rfl
  obtain ⟨qq, hqq⟩ := hlQ.node 0 EQ _ rfl rfl
  have f3 : w.cell? ⟨EQ, 3, none⟩ = some (cellsOf C R) := by rw [hqq.cell]; rfl
  have hEQ : EQ < w.heap.size := hqq.lt
  have HLQ := Lib.hid hlQ
  have hcf : ∀ (args : Array Value) (W : World), Sem.run Tryz.prog (callFunc 132 args) W = .ok (.enter 132 args) W := fun args W => by kernel_rfl
  have hx : ((0 : Int) < R) := by omega
  clear hqq hlP hlQ
  unfold FMat at e3
  unfold cellsOf at f3
  go_enter Tryz.func59, Tryz.ntmps59
  go_wp2_with fail
  refine (front_any _ _ _ _ r0 r4 (by decide)).mono ?_
  rintro e v1 ⟨rfl, rfl⟩
  go_wp2_with fail
  refine (front_any _ _ _ _ r0 r4 (by decide)).mono ?_
  rintro e v1 ⟨rfl, rfl⟩
  go_wp2_with fail
  refine (len_any _ _ _ q4).mono ?_
  rintro e v1 ⟨rfl, rfl⟩
  go_wp2_with fail
  refine (front_any _ _ _ _ r0 r4 (by decide)).mono ?_
  rintro e v1 ⟨rfl, rfl⟩
  go_wp2_with fail
  refine (front_any _ _ _ _ q0 q4 (by decide)).mono ?_
  rintro e v1 ⟨rfl, rfl⟩
  go_wp2_with fail
  refine wp_loop_rounds 2 ?_
  rw [rounds_succ]
  go_wp2_with fail
  refine (getval_false _ _ _ _).mono ?_
  rintro e w1 ⟨rfl, hb1⟩
  have f31 := ((bcell hb1).1 _ _ hEQ).trans f3
  have hz1 := hb1.size
  go_wp2_with fail
  refine (getval_false _ _ _ _).mono ?_
  rintro e w2 ⟨rfl, hb2⟩
  have f32 := ((bcell hb2).1 _ _ (Nat.lt_of_lt_of_le hEQ hz1)).trans f31
  have hbw2 := hb1.trans (hb2.mono hz1)
  have hz2 := hbw2.size
  clear f31
  go_wp2_with fail
  refine (getval_false _ _ _ _).mono ?_
  rintro e w3 ⟨rfl, hb3⟩
  have hbw3 := hbw2.trans (hb3.mono hz2)
  have hz3 := hbw3.size
  have hnx := next_any Q [EQ] [cellsOf C R] 0 EQ w3 (HLQ.out.below hbw3) rfl
  rw [elemPtr_none (by simp)] at hnx
  have HNX := Lib.hid hnx
  clear f32 hnx f3
  go_wp2_with fail
  refine HNX.out.mono ?_
  rintro e v1 ⟨rfl, rfl⟩
  have r0' := ((bcell hbw3).1 _ _ hlt).trans r0
  have r4' := ((bcell hbw3).1 _ _ hlt).trans r4
  have e3' := ((bcell hbw3).1 _ _ hlte).trans e3
  have p4' := ((bcell hbw3).1 _ _ hPl).trans p4
  have hlte3 : E < w3.heap.size := Nat.lt_of_lt_of_le hlte hz3
  clear r0 r1 r4 e0 e2 e3 p4 q0 q4 hb1 hb2 hb3 hcf HLQ
  go_wp2_with fail
  rw [rounds_succ]
  go_wp2_with fail
  refine (front_any _ _ _ _ r0' r4' (by decide)).mono ?_
  rintro e v1 ⟨rfl, rfl⟩
  go_wp2_with fail
  refine (front_any _ _ _ _ r0' r4' (by decide)).mono ?_
  rintro e v1 ⟨rfl, rfl⟩
  go_wp2_with fail
  refine (len_any _ _ _ p4').mono ?_
  rintro e v1 ⟨rfl, rfl⟩
  go_wp2
  go_ret2
  exact ⟨rfl, hbw3⟩

end Go.Proofs.YtdpkjhohklfieaaGreat
