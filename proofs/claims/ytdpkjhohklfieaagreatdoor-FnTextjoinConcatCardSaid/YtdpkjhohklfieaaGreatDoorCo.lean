/- Call, CallOver, Fits of the reference: where the answer comes from, for whatever name. -/
import Derived.Test.YtdpkjhohklfieaaGreatDoorEv
set_option linter.unusedSimpArgs false
set_option linter.unusedVariables false
namespace Go.Proofs.YtdpkjhohklfieaaGreatDoor
open Go.RowKit
set_option maxRecDepth 100000

/-- A part of the reference holds no function of a name. -/
def Gone (fn : Nat) (nm : ByteArray) (A : Option Addr) (n c : Nat) : Prop :=
  ∀ W : World, Calls Tryz.prog fn #[.string nm, .slice A n c] W fun e w' => e = .returned (.tuple #[(.agg #[.int .i64 0, .int .i64 0, .int .i64 0, .string ⟨#[]⟩, .slice none 0 0]), .bool false]) ∧ Below W.heap.size W w'
/-- From block B on the world w' holds what w held. -/
def Upon (B : Nat) (w w' : World) : Prop := w.heap.size ≤ w'.heap.size ∧ ∀ i, B ≤ i → i < w.heap.size → w'.heap[i]? = w.heap[i]?
theorem Upon.refl (B : Nat) (w : World) : Upon B w w := ⟨Nat.le_refl _, fun _ _ _ => rfl⟩
theorem Upon.trans {B : Nat} {a b c : World} (h : Upon B a b) (k : Upon B b c) : Upon B a c :=
  ⟨Nat.le_trans h.1 k.1, fun i h1 h2 => (k.2 i h1 (Nat.lt_of_lt_of_le h2 h.1)).trans (h.2 i h1 h2)⟩
theorem Upon.below {B : Nat} {w w' : World} (h : Below w.heap.size w w') : Upon B w w' := ⟨h.size, fun i _ h2 => h.block i h2⟩
theorem Upon.alloc {B : Nat} {w w' : World} (h : Upon B w w') (o : Obj) : Upon B w (w'.alloc o) :=
  h.trans (Upon.below ((Below.refl _ _).alloc (Nat.le_refl _) _))
theorem Upon.setCell {B : Nat} {w w' : World} (h : Upon B w w') (a : Addr) (ha : a.block < B) (v : Value) : Upon B w (w'.setCell a v) := by
  refine h.trans ⟨by simp [size_setCell], fun i h1 _ => ?_⟩
  have hne : a.block ≠ i := by omega
  simp [World.setCell, Array.getElem?_modify, hne]
/-- A fact on a value in the blocks from B on: it stays true while these do. -/
def Lasts (R : Nat → Ve → World → Prop) : Prop := ∀ B B' v W W', R B v W → B' ≤ B → Upon B W W' → R B' v W'
def Made (R : Nat → Ve → World → Prop) (w : World) (e : Ending) (w' : World) : Prop := ∃ v : Ve, e = .returned (.agg #[.int .i64 v.x.k, .int .i64 v.x.n, .int .i64 v.x.d, .string v.x.s, .slice v.A v.m v.c]) ∧ R w.heap.size v w' ∧ Below w.heap.size w w'
def MadeHere (R : Nat → Ve → World → Prop) (w : World) (e : Ending) (w' : World) : Prop := ∃ v : Ve, e = .returned (.tuple #[(.agg #[.int .i64 v.x.k, .int .i64 v.x.n, .int .i64 v.x.d, .string v.x.s, .slice v.A v.m v.c]), .bool true]) ∧ R w.heap.size v w' ∧ Below w.heap.size w w'
def Here (fn : Nat) (nm : ByteArray) (A : Option Addr) (n c : Nat) (R : Nat → Ve → World → Prop) (w : World) : Prop :=
  ∀ W : World, Below w.heap.size w W → Calls Tryz.prog fn #[.string nm, .slice A n c] W (MadeHere R W)
def Said (fn : Nat) (nm : ByteArray) (A : Option Addr) (n c : Nat) (b1 b2 : Bool) (w : World) : Prop :=
  ∀ W : World, Below w.heap.size w W → Calls Tryz.prog fn #[.string nm, .slice A n c] W fun e w' => e = .returned (.tuple #[.bool b1, .bool b2]) ∧ Below W.heap.size W w'

theorem Said.later {fn : Nat} {nm : ByteArray} {A : Option Addr} {n c : Nat} {b1 b2 : Bool} {w W : World} (h : Said fn nm A n c b1 b2 w) (hb : Below w.heap.size w W) : Said fn nm A n c b1 b2 W :=
  fun W' hb' => h W' (hb.trans (hb'.mono hb.size))
theorem Here.later {fn : Nat} {nm : ByteArray} {A : Option Addr} {n c : Nat} {R : Nat → Ve → World → Prop} {w W : World} (h : Here fn nm A n c R w) (hb : Below w.heap.size w W) : Here fn nm A n c R W :=
  fun W' hb' => h W' (hb.trans (hb'.mono hb.size))
def IsDoubt (_ : Nat) (v : Ve) (_ : World) : Prop := v = ⟨⟨6, 0, 0, ⟨#[]⟩⟩, none, 0, 0⟩

/-- A value of the reference that was made empty, and may be written. -/
def Zero5 (w : World) (B : Nat) : Prop :=
  B < w.heap.size ∧ w.cell? ⟨B, 0, none⟩ = some (.int .i64 0) ∧ w.cell? ⟨B, 1, none⟩ = some (.int .i64 0) ∧ w.cell? ⟨B, 2, none⟩ = some (.int .i64 0) ∧ w.cell? ⟨B, 3, none⟩ = some (.string ⟨#[]⟩) ∧ w.cell? ⟨B, 4, none⟩ = some (.slice none 0 0) ∧ ∀ o, w.frozen? ⟨B, o, none⟩ = false
theorem Zero5.new (w : World) : Zero5 (w.alloc (.cells #[.int .i64 0, .int .i64 0, .int .i64 0, .string ⟨#[]⟩, .slice none 0 0] 26)) w.heap.size := by
  refine ⟨by simp, ?_, ?_, ?_, ?_, ?_, ?_⟩
  · simp [go_sem]
  · simp [go_sem]
  · simp [go_sem]
  · simp [go_sem]
  · simp [go_sem]
  · intro o; simp [go_sem]
theorem Zero5.below {w w' : World} {B : Nat} (h : Zero5 w B) (hb : Below w.heap.size w w') : Zero5 w' B := by
  obtain ⟨h0, h1, h2, h3, h4, h5, h6⟩ := h
  obtain ⟨hc, hf, hz⟩ := bcell hb
  exact ⟨by omega, (hc _ _ h0).trans h1, (hc _ _ h0).trans h2, (hc _ _ h0).trans h3, (hc _ _ h0).trans h4, (hc _ _ h0).trans h5, fun o => (hf _ _ h0).trans (h6 o)⟩

/-- The value is a single one, and this. -/
def Flat1 (x : Fv) (_ : Nat) (v : Ve) (_ : World) : Prop := v = ⟨x, none, 0, 0⟩
theorem Flat1.lasts (x : Fv) : Lasts (Flat1 x) := fun _ _ _ _ _ h _ _ => h
def doubtFv : Fv := ⟨6, 0, 0, ⟨#[]⟩⟩

theorem Made.flat {x : Fv} {w : World} {e : Ending} {w' : World} (h : Made (Flat1 x) w e w') : e = .returned (.agg #[.int .i64 x.k, .int .i64 x.n, .int .i64 x.d, .string x.s, .slice none 0 0]) ∧ Below w.heap.size w w' := by
  obtain ⟨v, rfl, rfl, hb⟩ := h
  exact ⟨rfl, hb⟩
theorem Made.doubt {w : World} {e : Ending} {w' : World} (h : Made IsDoubt w e w') : Made (Flat1 doubtFv) w e w' := h

end Go.Proofs.YtdpkjhohklfieaaGreatDoor
