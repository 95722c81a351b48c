/- What the statements on one value share. -/
import Derived.Test.YtdpkjhohklfieaaGreatDoorCo
import Derived.Test.YtdpkjhohklfieaaGreatDoorQ
import Derived.Test.YtdpkjhohklfieaaGreatDoorU
set_option linter.unusedSimpArgs false
set_option linter.unusedVariables false
namespace Go.Proofs.YtdpkjhohklfieaaGreatDoor
open Go.RowKit
set_option maxRecDepth 100000
set_option maxHeartbeats 1000000

theorem Below.dN {B : Nat} {a w : World} (h : Below B a w) (n : Nat) : Below B a (w.drewN n) := h.trans ⟨rfl, rfl, rfl, Nat.le_refl _, fun _ _ => rfl⟩

/-- The argument's five cells, and what the walk asks of them. -/
structure One (w : World) (b off : Nat) (x : Fv) : Prop where
  lt : b < w.heap.size
  c0 : w.cell? ⟨b, off, none⟩ = some (.int .i64 x.k)
  c1 : w.cell? ⟨b, off + 1, none⟩ = some (.int .i64 x.n)
  c2 : w.cell? ⟨b, off + 2, none⟩ = some (.int .i64 x.d)
  c3 : w.cell? ⟨b, off + 3, none⟩ = some (.string x.s)
  c4 : w.cell? ⟨b, off + 4, none⟩ = some (.slice none 0 0)
theorem One.of_row {w : World} {b off : Nat} {x : Fv} (h : Row w b off 5 [x.cells]) (hb : b < w.heap.size) : One w b off x := by
  have hR := (h 0 x.cells rfl).2
  exact ⟨hb, by simpa using hR 0 _ rfl, by simpa using hR 1 _ rfl, by simpa using hR 2 _ rfl, by simpa using hR 3 _ rfl, by simpa using hR 4 _ rfl⟩
theorem One.below {w w' : World} {b off : Nat} {x : Fv} (h : One w b off x) (hb : Below w.heap.size w w') : One w' b off x := by
  obtain ⟨h0, h1, h2, h3, h4, h5⟩ := h
  obtain ⟨hc, _, hz⟩ := bcell hb
  exact ⟨by omega, (hc _ _ h0).trans h1, (hc _ _ h0).trans h2, (hc _ _ h0).trans h3, (hc _ _ h0).trans h4, (hc _ _ h0).trans h5⟩
/-- A single value that satisfies this. -/
def FlatP (Pw : Fv → Prop) (_ : Nat) (v : Ve) (_ : World) : Prop := ∃ y, Pw y ∧ v = ⟨y, none, 0, 0⟩
theorem FlatP.lasts (Pw : Fv → Prop) : Lasts (FlatP Pw) := fun _ _ _ _ _ h _ _ => h
theorem Made.flatP {Pw : Fv → Prop} {w : World} {e : Ending} {w' : World} (h : Made (FlatP Pw) w e w') : ∃ y, Pw y ∧ e = .returned (.agg #[.int .i64 y.k, .int .i64 y.n, .int .i64 y.d, .string y.s, .slice none 0 0]) ∧ Below w.heap.size w w' := by
  obtain ⟨v, rfl, ⟨y, hy, rfl⟩, hb⟩ := h
  exact ⟨y, hy, rfl, hb⟩
@[go_sem] theorem assert_arg (x : Value) (W : World) : (Instr.typeAssert (.iface 58 x) 20 58 false).run Tryz.prog W = .ok x W := by kernel_rfl

@[go_sem] theorem field_type (x : Nat) (s : ByteArray) (b : Bool) (e : ByteArray) (t : Int) (W : World) : (Instr.field 58 (.agg #[.string ⟨#[]⟩, .float .f64 x, .string s, .slice none 0 0, .slice none 0 0, .bool b, .string e, .int .u8 t, .pointer none, .pointer none]) 7).run Tryz.prog W = .ok (.int .u8 t) W := by kernel_rfl

/-- A list of one value, cell by cell. -/
structure List1 (w : World) (LB E : Nat) (v : Value) : Prop where
  lt : LB < w.heap.size
  lte : E < w.heap.size
  r0 : w.cell? ⟨LB, 0, none⟩ = some (.pointer (some ⟨E, 0, none⟩))
  r1 : w.cell? ⟨LB, 1, none⟩ = some (.pointer (some ⟨E, 0, none⟩))
  r4 : w.cell? ⟨LB, 4, none⟩ = some (.int .i64 1)
  e0 : w.cell? ⟨E, 0, none⟩ = some (.pointer (some ⟨LB, 0, none⟩))
  e2 : w.cell? ⟨E, 2, none⟩ = some (.pointer (some ⟨LB, 0, none⟩))
  e3 : w.cell? ⟨E, 3, none⟩ = some v
theorem IsList.one {w : World} {LB : Nat} {es : List Nat} {v : Value} (h : IsList w LB es [v]) : ∃ E, List1 w LB E v := by
  have hl := h.len
  match es, hl with
  | [E], _ =>
    obtain ⟨q, hq⟩ := h.node 0 E v rfl rfl
    exact ⟨E, h.lt, hq.lt, by rw [h.root.cell]; rfl, by rw [h.root.cell]; rfl, by rw [h.root.cell]; rfl, by rw [hq.cell]; rfl, by rw [hq.cell]; rfl, by rw [hq.cell]; rfl⟩
theorem len_any (LB : Nat) (n : Int) (w : World) (h4 : w.cell? ⟨LB, 4, none⟩ = some (.int .i64 n)) :
    Calls Tryz.prog 33 #[.pointer (some ⟨LB, 0, none⟩)] w fun e w' => e = .returned (.int .i64 n) ∧ w = w' := by
  go_enter Tryz.func33, Tryz.ntmps33
  go_wp2
  go_ret
  exact ⟨rfl, rfl⟩
theorem front_any (LB E : Nat) (n : Int) (w : World) (h0 : w.cell? ⟨LB, 0, none⟩ = some (.pointer (some ⟨E, 0, none⟩))) (h4 : w.cell? ⟨LB, 4, none⟩ = some (.int .i64 n)) (hn : n ≠ 0) :
    Calls Tryz.prog 38 #[.pointer (some ⟨LB, 0, none⟩)] w fun e w' => e = .returned (.pointer (some ⟨E, 0, none⟩)) ∧ w = w' := by
  have hn' : (n == 0) = false := by simpa using hn
  go_enter Tryz.func38, Tryz.ntmps38
  go_wp2
  go_ret
  exact ⟨rfl, rfl⟩

theorem num_1 : Fl.Num 4607182418800017408 := by unfold Fl.Num; decide +kernel
theorem num_2 : Fl.Num 4611686018427387904 := by unfold Fl.Num; decide +kernel
theorem num_3 : Fl.Num 4613937818241073152 := by unfold Fl.Num; decide +kernel
theorem num_4 : Fl.Num 4616189618054758400 := by unfold Fl.Num; decide +kernel
theorem num_5 : Fl.Num 4617315517961601024 := by unfold Fl.Num; decide +kernel
theorem num_6 : Fl.Num 4618441417868443648 := by unfold Fl.Num; decide +kernel
theorem num_7 : Fl.Num 4619567317775286272 := by unfold Fl.Num; decide +kernel
theorem num_16 : Fl.Num 4625196817309499392 := by unfold Fl.Num; decide +kernel


/-- A value of the thin package (or at a door) that was made empty, and may be written. -/
def Zero4 (w : World) (B : Nat) : Prop :=
  B < w.heap.size ∧ w.cell? ⟨B, 0, none⟩ = some (.int .i64 0) ∧ w.cell? ⟨B, 1, none⟩ = some (.float .f64 0) ∧ w.cell? ⟨B, 2, none⟩ = some (.string ⟨#[]⟩) ∧ w.cell? ⟨B, 3, none⟩ = some (.slice none 0 0) ∧ ∀ o, w.frozen? ⟨B, o, none⟩ = false
theorem Zero4.new (w : World) (t : TypeId) : Zero4 (w.alloc (.cells #[.int .i64 0, .float .f64 0, .string ⟨#[]⟩, .slice none 0 0] t)) w.heap.size := by
  refine ⟨by simp, ?_, ?_, ?_, ?_, ?_⟩
  · simp [go_sem]
  · simp [go_sem]
  · simp [go_sem]
  · simp [go_sem]
  · intro o; simp [go_sem]
theorem Zero4.below {w w' : World} {B : Nat} (h : Zero4 w B) (hb : Below w.heap.size w w') : Zero4 w' B := by
  obtain ⟨h0, h1, h2, h3, h4, h6⟩ := h
  obtain ⟨hc, hf, hz⟩ := bcell hb
  exact ⟨by omega, (hc _ _ h0).trans h1, (hc _ _ h0).trans h2, (hc _ _ h0).trans h3, (hc _ _ h0).trans h4, fun o => (hf _ _ h0).trans (h6 o)⟩

/-- What the package's own form of a value comes out as. -/
def Outs (f : Value) (res : Gl) : Prop := ∀ W : World, Calls Tryz.prog 26 #[f] W fun e w' => e = .returned (.agg #[.int .i64 res.k, .float .f64 res.x, .string res.s, .slice none 0 0]) ∧ Below W.heap.size W w'

end Go.Proofs.YtdpkjhohklfieaaGreatDoor
