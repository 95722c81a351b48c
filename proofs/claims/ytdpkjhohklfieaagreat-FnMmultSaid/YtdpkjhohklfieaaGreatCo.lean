/- Call, CallOver, Fits of the reference: where the answer comes from, for whatever name. -/
import Derived.Test.YtdpkjhohklfieaaGreatEv
set_option linter.unusedSimpArgs false
set_option linter.unusedVariables false
namespace Go.Proofs.YtdpkjhohklfieaaGreat
open Go.RowKit
set_option maxRecDepth 100000

/-- A part of the reference holds no function of a name. -/
def Gone (fn : Nat) (nm : ByteArray) (A : Option Addr) (n c : Nat) : Prop :=
  ∀ W : World, Calls Tryz.prog fn #[.string nm, .slice A n c] W fun e w' => e = .returned (.tuple #[(.agg #[.int .i64 0, .int .i64 0, .int .i64 0, .string ⟨#[]⟩, .slice none 0 0]), .bool false]) ∧ Below W.heap.size W w'
/-- From block B on the world w' holds what w held. -/
def Upon (B : Nat) (w w' : World) : Prop := w.heap.size ≤ w'.heap.size ∧ ∀ i, B ≤ i → i < w.heap.size → w'.heap[i]? = w.heap[i]?
theorem Upon.refl (B : Nat) (w : World) : Upon B w w := ⟨Nat.le_refl _, fun _ _ _ => rfl⟩
theorem Upon.trans {B : Nat} {a b c : World} (h : Upon B a b) (k : Upon B b c) : Upon B a c :=
  ⟨Nat.le_trans h.1 k.1, fun i h1 h2 => (k.2 i h1 (Nat.lt_of_lt_of_le h2 h.1)).trans (h.2 i h1 h2)⟩
theorem Upon.below {B : Nat} {w w' : World} (h : Below w.heap.size w w') : Upon B w w' := ⟨h.size, fun i _ h2 => h.block i h2⟩
theorem Upon.alloc {B : Nat} {w w' : World} (h : Upon B w w') (o : Obj) : Upon B w (w'.alloc o) :=
  h.trans (Upon.below ((Below.refl _ _).alloc (Nat.le_refl _) _))
theorem Upon.setCell {B : Nat} {w w' : World} (h : Upon B w w') (a : Addr) (ha : a.block < B) (v : Value) : Upon B w (w'.setCell a v) := by
  refine h.trans ⟨by simp [size_setCell], fun i h1 _ => ?_⟩
  have hne : a.block ≠ i := by omega
  simp [World.setCell, Array.getElem?_modify, hne]
/-- A fact on a value in the blocks from B on: it stays true while these do. -/
def Lasts (R : Nat → Ve → World → Prop) : Prop := ∀ B B' v W W', R B v W → B' ≤ B → Upon B W W' → R B' v W'
def Made (R : Nat → Ve → World → Prop) (w : World) (e : Ending) (w' : World) : Prop := ∃ v : Ve, e = .returned (.agg #[.int .i64 v.x.k, .int .i64 v.x.n, .int .i64 v.x.d, .string v.x.s, .slice v.A v.m v.c]) ∧ R w.heap.size v w' ∧ Below w.heap.size w w'
def MadeHere (R : Nat → Ve → World → Prop) (w : World) (e : Ending) (w' : World) : Prop := ∃ v : Ve, e = .returned (.tuple #[(.agg #[.int .i64 v.x.k, .int .i64 v.x.n, .int .i64 v.x.d, .string v.x.s, .slice v.A v.m v.c]), .bool true]) ∧ R w.heap.size v w' ∧ Below w.heap.size w w'
def Here (fn : Nat) (nm : ByteArray) (A : Option Addr) (n c : Nat) (R : Nat → Ve → World → Prop) (w : World) : Prop :=
  ∀ W : World, Below w.heap.size w W → Calls Tryz.prog fn #[.string nm, .slice A n c] W (MadeHere R W)
def Said (fn : Nat) (nm : ByteArray) (A : Option Addr) (n c : Nat) (b1 b2 : Bool) (w : World) : Prop :=
  ∀ W : World, Below w.heap.size w W → Calls Tryz.prog fn #[.string nm, .slice A n c] W fun e w' => e = .returned (.tuple #[.bool b1, .bool b2]) ∧ Below W.heap.size W w'

theorem fits_choices (nm : ByteArray) (A : Option Addr) (n c : Nat) (b : Bool) (w : World) (h1 : Said 60 nm A n c false false w) (h2 : Said 61 nm A n c false false w) (h3 : Said 62 nm A n c b true w) :
    Calls Tryz.prog 37 #[.string nm, .slice A n c] w fun e w' => e = .returned (.bool b) ∧ Below w.heap.size w w' := by
  go_enter Tryz.func37, Tryz.ntmps37
  go_wp2_with fail
  refine (h1 _ (Below.refl _ _)).mono ?_
  rintro e w1 ⟨rfl, hb1⟩
  go_wp2_with fail
  refine (h2 _ hb1).mono ?_
  rintro e w2 ⟨rfl, hb2⟩
  have hbw2 := hb1.trans (hb2.mono hb1.size)
  go_wp2_with fail
  refine (h3 _ hbw2).mono ?_
  rintro e w3 ⟨rfl, hb3⟩
  go_wp2
  go_ret
  exact ⟨rfl, hbw2.trans (hb3.mono hbw2.size)⟩

theorem fits_texts (nm : ByteArray) (A : Option Addr) (n c : Nat) (b : Bool) (w : World) (h1 : Said 60 nm A n c false false w) (h2 : Said 61 nm A n c b true w) :
    Calls Tryz.prog 37 #[.string nm, .slice A n c] w fun e w' => e = .returned (.bool b) ∧ Below w.heap.size w w' := by
  go_enter Tryz.func37, Tryz.ntmps37
  go_wp2_with fail
  refine (h1 _ (Below.refl _ _)).mono ?_
  rintro e w1 ⟨rfl, hb1⟩
  go_wp2_with fail
  refine (h2 _ hb1).mono ?_
  rintro e w2 ⟨rfl, hb2⟩
  have hbw2 := hb1.trans (hb2.mono hb1.size)
  go_wp2
  go_ret
  exact ⟨rfl, hbw2⟩

theorem fits_others (nm : ByteArray) (A : Option Addr) (n c : Nat) (w : World) (h1 : Said 60 nm A n c false false w) (h2 : Said 61 nm A n c false false w) (h3 : Said 62 nm A n c false false w)
    (h4 : ∀ W : World, Calls Tryz.prog 63 #[.string nm] W fun e w' => e = .returned (.bool true) ∧ Below W.heap.size W w') :
    Calls Tryz.prog 37 #[.string nm, .slice A n c] w fun e w' => e = .returned (.bool true) ∧ Below w.heap.size w w' := by
  go_enter Tryz.func37, Tryz.ntmps37
  go_wp2_with fail
  refine (h1 _ (Below.refl _ _)).mono ?_
  rintro e w1 ⟨rfl, hb1⟩
  go_wp2_with fail
  refine (h2 _ hb1).mono ?_
  rintro e w2 ⟨rfl, hb2⟩
  have hbw2 := hb1.trans (hb2.mono hb1.size)
  go_wp2_with fail
  refine (h3 _ hbw2).mono ?_
  rintro e w3 ⟨rfl, hb3⟩
  have hbw3 := hbw2.trans (hb3.mono hbw2.size)
  go_wp2_with fail
  refine (h4 _).mono ?_
  rintro e w4 ⟨rfl, hb4⟩
  go_wp2
  go_ret
  exact ⟨rfl, hbw3.trans (hb4.mono hbw3.size)⟩

/-- Whether anything is said of arguments. -/
def FitsIs (nm : ByteArray) (A : Option Addr) (n c : Nat) (b : Bool) (w : World) : Prop :=
  ∀ W : World, Below w.heap.size w W → Calls Tryz.prog 37 #[.string nm, .slice A n c] W fun e w' => e = .returned (.bool b) ∧ Below W.heap.size W w'
theorem Said.later {fn : Nat} {nm : ByteArray} {A : Option Addr} {n c : Nat} {b1 b2 : Bool} {w W : World} (h : Said fn nm A n c b1 b2 w) (hb : Below w.heap.size w W) : Said fn nm A n c b1 b2 W :=
  fun W' hb' => h W' (hb.trans (hb'.mono hb.size))
theorem Here.later {fn : Nat} {nm : ByteArray} {A : Option Addr} {n c : Nat} {R : Nat → Ve → World → Prop} {w W : World} (h : Here fn nm A n c R w) (hb : Below w.heap.size w W) : Here fn nm A n c R W :=
  fun W' hb' => h W' (hb.trans (hb'.mono hb.size))
theorem FitsIs.later {nm : ByteArray} {A : Option Addr} {n c : Nat} {b : Bool} {w W : World} (h : FitsIs nm A n c b w) (hb : Below w.heap.size w W) : FitsIs nm A n c b W :=
  fun W' hb' => h W' (hb.trans (hb'.mono hb.size))

def IsDoubt (_ : Nat) (v : Ve) (_ : World) : Prop := v = ⟨⟨6, 0, 0, ⟨#[]⟩⟩, none, 0, 0⟩

/-- A value of the reference that was made empty, and may be written. -/
def Zero5 (w : World) (B : Nat) : Prop :=
  B < w.heap.size ∧ w.cell? ⟨B, 0, none⟩ = some (.int .i64 0) ∧ w.cell? ⟨B, 1, none⟩ = some (.int .i64 0) ∧ w.cell? ⟨B, 2, none⟩ = some (.int .i64 0) ∧ w.cell? ⟨B, 3, none⟩ = some (.string ⟨#[]⟩) ∧ w.cell? ⟨B, 4, none⟩ = some (.slice none 0 0) ∧ ∀ o, w.frozen? ⟨B, o, none⟩ = false
theorem Zero5.new (w : World) : Zero5 (w.alloc (.cells #[.int .i64 0, .int .i64 0, .int .i64 0, .string ⟨#[]⟩, .slice none 0 0] 27)) w.heap.size := by
  refine ⟨by simp, ?_, ?_, ?_, ?_, ?_, ?_⟩
  · simp [go_sem]
  · simp [go_sem]
  · simp [go_sem]
  · simp [go_sem]
  · simp [go_sem]
  · intro o; simp [go_sem]
theorem Zero5.below {w w' : World} {B : Nat} (h : Zero5 w B) (hb : Below w.heap.size w w') : Zero5 w' B := by
  obtain ⟨h0, h1, h2, h3, h4, h5, h6⟩ := h
  obtain ⟨hc, hf, hz⟩ := bcell hb
  exact ⟨by omega, (hc _ _ h0).trans h1, (hc _ _ h0).trans h2, (hc _ _ h0).trans h3, (hc _ _ h0).trans h4, (hc _ _ h0).trans h5, fun o => (hf _ _ h0).trans (h6 o)⟩

/-- Nothing is said of arguments that do not fit. -/
theorem over_doubt (nm : ByteArray) (A : Option Addr) (n c : Nat) (w : World) (hf : FitsIs nm A n c false w) :
    Calls Tryz.prog 26 #[.string nm, .slice A n c, .slice A n c] w (Made IsDoubt w) := by
  go_enter Tryz.func26, Tryz.ntmps26
  go_wp2_with fail
  refine (hf _ ((Below.refl _ _).alloc (Nat.le_refl _) _)).mono ?_
  rintro e w1 ⟨rfl, hb1⟩
  have hbw1 := ((Below.refl _ w).alloc (Nat.le_refl _) (.cells #[.int .i64 0, .int .i64 0, .int .i64 0, .string ⟨#[]⟩, .slice none 0 0] 27)).trans (hb1.mono (by simp))
  have z1 := (Zero5.new w).below hb1
  clear hb1
  go_wp2_with fail
  refine (doubt_any _).mono ?_
  rintro e w2 ⟨rfl, hb2⟩
  have hbw2 := hbw1.trans (hb2.mono hbw1.size)
  obtain ⟨q, q0, q1, q2, q3, q4, qf⟩ := z1.below hb2
  clear hb2 z1
  go_wp2
  exact bodyPost_ret (v := (.agg #[.int .i64 6, .int .i64 0, .int .i64 0, .string ⟨#[]⟩, .slice none 0 0])) (by simp [results, Tryz.results26, go_sem, q, q0, q1, q2, q3, q4, qf]) rfl ⟨⟨⟨6, 0, 0, ⟨#[]⟩⟩, none, 0, 0⟩, rfl, rfl, (by (repeat' (first | with_reducible exact Below.refl _ _ | with_reducible refine Below.setCell ?_ ?_ _ | with_reducible refine Below.alloc ?_ ?_ _ | with_reducible refine Below.drew ?_ | with_reducible refine Below.trans ?_ (Below.mono (by assumption) ?_))); all_goals (first | omega | (simp [World.setCell]; done) | (simp [World.setCell]; omega)))⟩

set_option maxHeartbeats 1000000 in
theorem over_Stat (nm : ByteArray) (A : Option Addr) (n c : Nat) (R : Nat → Ve → World → Prop) (hR : Lasts R) (w : World) (hf : FitsIs nm A n c true w)  (h : Here 39 nm A n c R w) :
    Calls Tryz.prog 26 #[.string nm, .slice A n c, .slice A n c] w (Made R w) := by
  go_enter Tryz.func26, Tryz.ntmps26
  go_wp2_with fail
  have hbA : Below w.heap.size w (w.alloc (.cells #[.int .i64 0, .int .i64 0, .int .i64 0, .string ⟨#[]⟩, .slice none 0 0] 27)) := (Below.refl _ _).alloc (Nat.le_refl _) _
  refine (hf _ hbA).mono ?_
  rintro e v0 ⟨rfl, hb0⟩
  have hbw0 := hbA.trans (hb0.mono (by simp))
  have z0 := (Zero5.new w).below hb0
  clear hbA hb0
  go_wp2_with fail
  refine (h _ (by exact hbw0)).mono ?_
  rintro e w2 ⟨v, rfl, hv, hb2⟩
  have hbw := hbw0.trans (hb2.mono hbw0.size)
  have hlb := hbw0.size
  have hlt := z0.1
  have HB := Lib.hid hlb
  have HC := Lib.hid hlt
  clear hlb hlt
  obtain ⟨q, q0, q1, q2, q3, q4, qf⟩ := z0.below hb2
  clear hbw0 z0 hb2
  go_wp2
  exact bodyPost_ret (v := (.agg #[.int .i64 v.x.k, .int .i64 v.x.n, .int .i64 v.x.d, .string v.x.s, .slice v.A v.m v.c])) (by simp [results, Tryz.results26, go_sem, q, q0, q1, q2, q3, q4, qf]) rfl ⟨v, rfl, hR _ _ v w2 _ hv HB.out (((((((Upon.refl _ _).setCell _ HC.out _).setCell _ HC.out _).setCell _ HC.out _).setCell _ HC.out _).setCell _ HC.out _).alloc _), (by (repeat' (first | with_reducible exact Below.refl _ _ | with_reducible refine Below.setCell ?_ ?_ _ | with_reducible refine Below.alloc ?_ ?_ _ | with_reducible refine Below.drew ?_ | with_reducible refine Below.trans ?_ (Below.mono (by assumption) ?_))); all_goals (first | omega | (simp [World.setCell]; done) | (simp [World.setCell]; omega)))⟩

set_option maxHeartbeats 1000000 in
theorem over_Lookup (nm : ByteArray) (A : Option Addr) (n c : Nat) (R : Nat → Ve → World → Prop) (hR : Lasts R) (w : World) (hf : FitsIs nm A n c true w) (g0 : Gone 39 nm A n c) (g1 : Gone 40 nm A n c) (h : Here 41 nm A n c R w) :
    Calls Tryz.prog 26 #[.string nm, .slice A n c, .slice A n c] w (Made R w) := by
  go_enter Tryz.func26, Tryz.ntmps26
  go_wp2_with fail
  have hbA : Below w.heap.size w (w.alloc (.cells #[.int .i64 0, .int .i64 0, .int .i64 0, .string ⟨#[]⟩, .slice none 0 0] 27)) := (Below.refl _ _).alloc (Nat.le_refl _) _
  refine (hf _ hbA).mono ?_
  rintro e v0 ⟨rfl, hb0⟩
  have hbw0 := hbA.trans (hb0.mono (by simp))
  have z0 := (Zero5.new w).below hb0
  clear hbA hb0
  go_wp2_with fail
  refine (g0 _).mono ?_
  rintro e v1 ⟨rfl, hb1⟩
  have hbw1 : Below w.heap.size w (v1.alloc (.cells #[.int .i64 0, .int .i64 0, .int .i64 0, .string ⟨#[]⟩, .slice none 0 0] 27)) := (hbw0.trans (hb1.mono hbw0.size)).alloc (Nat.le_trans hbw0.size hb1.size) _
  have z1 : Zero5 (v1.alloc (.cells #[.int .i64 0, .int .i64 0, .int .i64 0, .string ⟨#[]⟩, .slice none 0 0] 27)) w.heap.size := (z0.below hb1).below ((Below.refl _ _).alloc (Nat.le_refl _) _)
  clear hb1 hbw0 z0
  go_wp2_with fail
  refine (g1 _).mono ?_
  rintro e v2 ⟨rfl, hb2⟩
  have hbw2 : Below w.heap.size w (v2.alloc (.cells #[.int .i64 0, .int .i64 0, .int .i64 0, .string ⟨#[]⟩, .slice none 0 0] 27)) := (hbw1.trans (hb2.mono hbw1.size)).alloc (Nat.le_trans hbw1.size hb2.size) _
  have z2 : Zero5 (v2.alloc (.cells #[.int .i64 0, .int .i64 0, .int .i64 0, .string ⟨#[]⟩, .slice none 0 0] 27)) w.heap.size := (z1.below hb2).below ((Below.refl _ _).alloc (Nat.le_refl _) _)
  clear hb2 hbw1 z1
  go_wp2_with fail
  refine (h _ (by exact hbw2)).mono ?_
  rintro e w2 ⟨v, rfl, hv, hb2⟩
  have hbw := hbw2.trans (hb2.mono hbw2.size)
  have hlb := hbw2.size
  have hlt := z2.1
  have HB := Lib.hid hlb
  have HC := Lib.hid hlt
  clear hlb hlt
  obtain ⟨q, q0, q1, q2, q3, q4, qf⟩ := z2.below hb2
  clear hbw2 z2 hb2
  go_wp2
  exact bodyPost_ret (v := (.agg #[.int .i64 v.x.k, .int .i64 v.x.n, .int .i64 v.x.d, .string v.x.s, .slice v.A v.m v.c])) (by simp [results, Tryz.results26, go_sem, q, q0, q1, q2, q3, q4, qf]) rfl ⟨v, rfl, hR _ _ v w2 _ hv HB.out (((((((Upon.refl _ _).setCell _ HC.out _).setCell _ HC.out _).setCell _ HC.out _).setCell _ HC.out _).setCell _ HC.out _).alloc _), (by (repeat' (first | with_reducible exact Below.refl _ _ | with_reducible refine Below.setCell ?_ ?_ _ | with_reducible refine Below.alloc ?_ ?_ _ | with_reducible refine Below.drew ?_ | with_reducible refine Below.trans ?_ (Below.mono (by assumption) ?_))); all_goals (first | omega | (simp [World.setCell]; done) | (simp [World.setCell]; omega)))⟩

set_option maxHeartbeats 1000000 in
theorem over_CallText (nm : ByteArray) (A : Option Addr) (n c : Nat) (R : Nat → Ve → World → Prop) (hR : Lasts R) (w : World) (hf : FitsIs nm A n c true w) (g0 : Gone 39 nm A n c) (g1 : Gone 40 nm A n c) (g2 : Gone 41 nm A n c) (g3 : Gone 42 nm A n c) (h : Here 43 nm A n c R w) :
    Calls Tryz.prog 26 #[.string nm, .slice A n c, .slice A n c] w (Made R w) := by
  go_enter Tryz.func26, Tryz.ntmps26
  go_wp2_with fail
  have hbA : Below w.heap.size w (w.alloc (.cells #[.int .i64 0, .int .i64 0, .int .i64 0, .string ⟨#[]⟩, .slice none 0 0] 27)) := (Below.refl _ _).alloc (Nat.le_refl _) _
  refine (hf _ hbA).mono ?_
  rintro e v0 ⟨rfl, hb0⟩
  have hbw0 := hbA.trans (hb0.mono (by simp))
  have z0 := (Zero5.new w).below hb0
  clear hbA hb0
  go_wp2_with fail
  refine (g0 _).mono ?_
  rintro e v1 ⟨rfl, hb1⟩
  have hbw1 : Below w.heap.size w (v1.alloc (.cells #[.int .i64 0, .int .i64 0, .int .i64 0, .string ⟨#[]⟩, .slice none 0 0] 27)) := (hbw0.trans (hb1.mono hbw0.size)).alloc (Nat.le_trans hbw0.size hb1.size) _
  have z1 : Zero5 (v1.alloc (.cells #[.int .i64 0, .int .i64 0, .int .i64 0, .string ⟨#[]⟩, .slice none 0 0] 27)) w.heap.size := (z0.below hb1).below ((Below.refl _ _).alloc (Nat.le_refl _) _)
  clear hb1 hbw0 z0
  go_wp2_with fail
  refine (g1 _).mono ?_
  rintro e v2 ⟨rfl, hb2⟩
  have hbw2 : Below w.heap.size w (v2.alloc (.cells #[.int .i64 0, .int .i64 0, .int .i64 0, .string ⟨#[]⟩, .slice none 0 0] 27)) := (hbw1.trans (hb2.mono hbw1.size)).alloc (Nat.le_trans hbw1.size hb2.size) _
  have z2 : Zero5 (v2.alloc (.cells #[.int .i64 0, .int .i64 0, .int .i64 0, .string ⟨#[]⟩, .slice none 0 0] 27)) w.heap.size := (z1.below hb2).below ((Below.refl _ _).alloc (Nat.le_refl _) _)
  clear hb2 hbw1 z1
  go_wp2_with fail
  refine (g2 _).mono ?_
  rintro e v3 ⟨rfl, hb3⟩
  have hbw3 : Below w.heap.size w (v3.alloc (.cells #[.int .i64 0, .int .i64 0, .int .i64 0, .string ⟨#[]⟩, .slice none 0 0] 27)) := (hbw2.trans (hb3.mono hbw2.size)).alloc (Nat.le_trans hbw2.size hb3.size) _
  have z3 : Zero5 (v3.alloc (.cells #[.int .i64 0, .int .i64 0, .int .i64 0, .string ⟨#[]⟩, .slice none 0 0] 27)) w.heap.size := (z2.below hb3).below ((Below.refl _ _).alloc (Nat.le_refl _) _)
  clear hb3 hbw2 z2
  go_wp2_with fail
  refine (g3 _).mono ?_
  rintro e v4 ⟨rfl, hb4⟩
  have hbw4 : Below w.heap.size w (v4.alloc (.cells #[.int .i64 0, .int .i64 0, .int .i64 0, .string ⟨#[]⟩, .slice none 0 0] 27)) := (hbw3.trans (hb4.mono hbw3.size)).alloc (Nat.le_trans hbw3.size hb4.size) _
  have z4 : Zero5 (v4.alloc (.cells #[.int .i64 0, .int .i64 0, .int .i64 0, .string ⟨#[]⟩, .slice none 0 0] 27)) w.heap.size := (z3.below hb4).below ((Below.refl _ _).alloc (Nat.le_refl _) _)
  clear hb4 hbw3 z3
  go_wp2_with fail
  refine (h _ (by exact hbw4)).mono ?_
  rintro e w2 ⟨v, rfl, hv, hb2⟩
  have hbw := hbw4.trans (hb2.mono hbw4.size)
  have hlb := hbw4.size
  have hlt := z4.1
  have HB := Lib.hid hlb
  have HC := Lib.hid hlt
  clear hlb hlt
  obtain ⟨q, q0, q1, q2, q3, q4, qf⟩ := z4.below hb2
  clear hbw4 z4 hb2
  go_wp2
  exact bodyPost_ret (v := (.agg #[.int .i64 v.x.k, .int .i64 v.x.n, .int .i64 v.x.d, .string v.x.s, .slice v.A v.m v.c])) (by simp [results, Tryz.results26, go_sem, q, q0, q1, q2, q3, q4, qf]) rfl ⟨v, rfl, hR _ _ v w2 _ hv HB.out (((((((Upon.refl _ _).setCell _ HC.out _).setCell _ HC.out _).setCell _ HC.out _).setCell _ HC.out _).setCell _ HC.out _).alloc _), (by (repeat' (first | with_reducible exact Below.refl _ _ | with_reducible refine Below.setCell ?_ ?_ _ | with_reducible refine Below.alloc ?_ ?_ _ | with_reducible refine Below.drew ?_ | with_reducible refine Below.trans ?_ (Below.mono (by assumption) ?_))); all_goals (first | omega | (simp [World.setCell]; done) | (simp [World.setCell]; omega)))⟩

set_option maxHeartbeats 1000000 in
theorem over_CallLogic (nm : ByteArray) (A : Option Addr) (n c : Nat) (R : Nat → Ve → World → Prop) (hR : Lasts R) (w : World) (hf : FitsIs nm A n c true w) (g0 : Gone 39 nm A n c) (g1 : Gone 40 nm A n c) (g2 : Gone 41 nm A n c) (g3 : Gone 42 nm A n c) (g4 : Gone 43 nm A n c) (h : Here 44 nm A n c R w) :
    Calls Tryz.prog 26 #[.string nm, .slice A n c, .slice A n c] w (Made R w) := by
  go_enter Tryz.func26, Tryz.ntmps26
  go_wp2_with fail
  have hbA : Below w.heap.size w (w.alloc (.cells #[.int .i64 0, .int .i64 0, .int .i64 0, .string ⟨#[]⟩, .slice none 0 0] 27)) := (Below.refl _ _).alloc (Nat.le_refl _) _
  refine (hf _ hbA).mono ?_
  rintro e v0 ⟨rfl, hb0⟩
  have hbw0 := hbA.trans (hb0.mono (by simp))
  have z0 := (Zero5.new w).below hb0
  clear hbA hb0
  go_wp2_with fail
  refine (g0 _).mono ?_
  rintro e v1 ⟨rfl, hb1⟩
  have hbw1 : Below w.heap.size w (v1.alloc (.cells #[.int .i64 0, .int .i64 0, .int .i64 0, .string ⟨#[]⟩, .slice none 0 0] 27)) := (hbw0.trans (hb1.mono hbw0.size)).alloc (Nat.le_trans hbw0.size hb1.size) _
  have z1 : Zero5 (v1.alloc (.cells #[.int .i64 0, .int .i64 0, .int .i64 0, .string ⟨#[]⟩, .slice none 0 0] 27)) w.heap.size := (z0.below hb1).below ((Below.refl _ _).alloc (Nat.le_refl _) _)
  clear hb1 hbw0 z0
  go_wp2_with fail
  refine (g1 _).mono ?_
  rintro e v2 ⟨rfl, hb2⟩
  have hbw2 : Below w.heap.size w (v2.alloc (.cells #[.int .i64 0, .int .i64 0, .int .i64 0, .string ⟨#[]⟩, .slice none 0 0] 27)) := (hbw1.trans (hb2.mono hbw1.size)).alloc (Nat.le_trans hbw1.size hb2.size) _
  have z2 : Zero5 (v2.alloc (.cells #[.int .i64 0, .int .i64 0, .int .i64 0, .string ⟨#[]⟩, .slice none 0 0] 27)) w.heap.size := (z1.below hb2).below ((Below.refl _ _).alloc (Nat.le_refl _) _)
  clear hb2 hbw1 z1
  go_wp2_with fail
  refine (g2 _).mono ?_
  rintro e v3 ⟨rfl, hb3⟩
  have hbw3 : Below w.heap.size w (v3.alloc (.cells #[.int .i64 0, .int .i64 0, .int .i64 0, .string ⟨#[]⟩, .slice none 0 0] 27)) := (hbw2.trans (hb3.mono hbw2.size)).alloc (Nat.le_trans hbw2.size hb3.size) _
  have z3 : Zero5 (v3.alloc (.cells #[.int .i64 0, .int .i64 0, .int .i64 0, .string ⟨#[]⟩, .slice none 0 0] 27)) w.heap.size := (z2.below hb3).below ((Below.refl _ _).alloc (Nat.le_refl _) _)
  clear hb3 hbw2 z2
  go_wp2_with fail
  refine (g3 _).mono ?_
  rintro e v4 ⟨rfl, hb4⟩
  have hbw4 : Below w.heap.size w (v4.alloc (.cells #[.int .i64 0, .int .i64 0, .int .i64 0, .string ⟨#[]⟩, .slice none 0 0] 27)) := (hbw3.trans (hb4.mono hbw3.size)).alloc (Nat.le_trans hbw3.size hb4.size) _
  have z4 : Zero5 (v4.alloc (.cells #[.int .i64 0, .int .i64 0, .int .i64 0, .string ⟨#[]⟩, .slice none 0 0] 27)) w.heap.size := (z3.below hb4).below ((Below.refl _ _).alloc (Nat.le_refl _) _)
  clear hb4 hbw3 z3
  go_wp2_with fail
  refine (g4 _).mono ?_
  rintro e v5 ⟨rfl, hb5⟩
  have hbw5 : Below w.heap.size w (v5.alloc (.cells #[.int .i64 0, .int .i64 0, .int .i64 0, .string ⟨#[]⟩, .slice none 0 0] 27)) := (hbw4.trans (hb5.mono hbw4.size)).alloc (Nat.le_trans hbw4.size hb5.size) _
  have z5 : Zero5 (v5.alloc (.cells #[.int .i64 0, .int .i64 0, .int .i64 0, .string ⟨#[]⟩, .slice none 0 0] 27)) w.heap.size := (z4.below hb5).below ((Below.refl _ _).alloc (Nat.le_refl _) _)
  clear hb5 hbw4 z4
  go_wp2_with fail
  refine (h _ (by exact hbw5)).mono ?_
  rintro e w2 ⟨v, rfl, hv, hb2⟩
  have hbw := hbw5.trans (hb2.mono hbw5.size)
  have hlb := hbw5.size
  have hlt := z5.1
  have HB := Lib.hid hlb
  have HC := Lib.hid hlt
  clear hlb hlt
  obtain ⟨q, q0, q1, q2, q3, q4, qf⟩ := z5.below hb2
  clear hbw5 z5 hb2
  go_wp2
  exact bodyPost_ret (v := (.agg #[.int .i64 v.x.k, .int .i64 v.x.n, .int .i64 v.x.d, .string v.x.s, .slice v.A v.m v.c])) (by simp [results, Tryz.results26, go_sem, q, q0, q1, q2, q3, q4, qf]) rfl ⟨v, rfl, hR _ _ v w2 _ hv HB.out (((((((Upon.refl _ _).setCell _ HC.out _).setCell _ HC.out _).setCell _ HC.out _).setCell _ HC.out _).setCell _ HC.out _).alloc _), (by (repeat' (first | with_reducible exact Below.refl _ _ | with_reducible refine Below.setCell ?_ ?_ _ | with_reducible refine Below.alloc ?_ ?_ _ | with_reducible refine Below.drew ?_ | with_reducible refine Below.trans ?_ (Below.mono (by assumption) ?_))); all_goals (first | omega | (simp [World.setCell]; done) | (simp [World.setCell]; omega)))⟩

set_option maxHeartbeats 1000000 in
theorem over_CallInfo (nm : ByteArray) (A : Option Addr) (n c : Nat) (R : Nat → Ve → World → Prop) (hR : Lasts R) (w : World) (hf : FitsIs nm A n c true w) (g0 : Gone 39 nm A n c) (g1 : Gone 40 nm A n c) (g2 : Gone 41 nm A n c) (g3 : Gone 42 nm A n c) (g4 : Gone 43 nm A n c) (g5 : Gone 44 nm A n c) (h : Here 45 nm A n c R w) :
    Calls Tryz.prog 26 #[.string nm, .slice A n c, .slice A n c] w (Made R w) := by
  go_enter Tryz.func26, Tryz.ntmps26
  go_wp2_with fail
  have hbA : Below w.heap.size w (w.alloc (.cells #[.int .i64 0, .int .i64 0, .int .i64 0, .string ⟨#[]⟩, .slice none 0 0] 27)) := (Below.refl _ _).alloc (Nat.le_refl _) _
  refine (hf _ hbA).mono ?_
  rintro e v0 ⟨rfl, hb0⟩
  have hbw0 := hbA.trans (hb0.mono (by simp))
  have z0 := (Zero5.new w).below hb0
  clear hbA hb0
  go_wp2_with fail
  refine (g0 _).mono ?_
  rintro e v1 ⟨rfl, hb1⟩
  have hbw1 : Below w.heap.size w (v1.alloc (.cells #[.int .i64 0, .int .i64 0, .int .i64 0, .string ⟨#[]⟩, .slice none 0 0] 27)) := (hbw0.trans (hb1.mono hbw0.size)).alloc (Nat.le_trans hbw0.size hb1.size) _
  have z1 : Zero5 (v1.alloc (.cells #[.int .i64 0, .int .i64 0, .int .i64 0, .string ⟨#[]⟩, .slice none 0 0] 27)) w.heap.size := (z0.below hb1).below ((Below.refl _ _).alloc (Nat.le_refl _) _)
  clear hb1 hbw0 z0
  go_wp2_with fail
  refine (g1 _).mono ?_
  rintro e v2 ⟨rfl, hb2⟩
  have hbw2 : Below w.heap.size w (v2.alloc (.cells #[.int .i64 0, .int .i64 0, .int .i64 0, .string ⟨#[]⟩, .slice none 0 0] 27)) := (hbw1.trans (hb2.mono hbw1.size)).alloc (Nat.le_trans hbw1.size hb2.size) _
  have z2 : Zero5 (v2.alloc (.cells #[.int .i64 0, .int .i64 0, .int .i64 0, .string ⟨#[]⟩, .slice none 0 0] 27)) w.heap.size := (z1.below hb2).below ((Below.refl _ _).alloc (Nat.le_refl _) _)
  clear hb2 hbw1 z1
  go_wp2_with fail
  refine (g2 _).mono ?_
  rintro e v3 ⟨rfl, hb3⟩
  have hbw3 : Below w.heap.size w (v3.alloc (.cells #[.int .i64 0, .int .i64 0, .int .i64 0, .string ⟨#[]⟩, .slice none 0 0] 27)) := (hbw2.trans (hb3.mono hbw2.size)).alloc (Nat.le_trans hbw2.size hb3.size) _
  have z3 : Zero5 (v3.alloc (.cells #[.int .i64 0, .int .i64 0, .int .i64 0, .string ⟨#[]⟩, .slice none 0 0] 27)) w.heap.size := (z2.below hb3).below ((Below.refl _ _).alloc (Nat.le_refl _) _)
  clear hb3 hbw2 z2
  go_wp2_with fail
  refine (g3 _).mono ?_
  rintro e v4 ⟨rfl, hb4⟩
  have hbw4 : Below w.heap.size w (v4.alloc (.cells #[.int .i64 0, .int .i64 0, .int .i64 0, .string ⟨#[]⟩, .slice none 0 0] 27)) := (hbw3.trans (hb4.mono hbw3.size)).alloc (Nat.le_trans hbw3.size hb4.size) _
  have z4 : Zero5 (v4.alloc (.cells #[.int .i64 0, .int .i64 0, .int .i64 0, .string ⟨#[]⟩, .slice none 0 0] 27)) w.heap.size := (z3.below hb4).below ((Below.refl _ _).alloc (Nat.le_refl _) _)
  clear hb4 hbw3 z3
  go_wp2_with fail
  refine (g4 _).mono ?_
  rintro e v5 ⟨rfl, hb5⟩
  have hbw5 : Below w.heap.size w (v5.alloc (.cells #[.int .i64 0, .int .i64 0, .int .i64 0, .string ⟨#[]⟩, .slice none 0 0] 27)) := (hbw4.trans (hb5.mono hbw4.size)).alloc (Nat.le_trans hbw4.size hb5.size) _
  have z5 : Zero5 (v5.alloc (.cells #[.int .i64 0, .int .i64 0, .int .i64 0, .string ⟨#[]⟩, .slice none 0 0] 27)) w.heap.size := (z4.below hb5).below ((Below.refl _ _).alloc (Nat.le_refl _) _)
  clear hb5 hbw4 z4
  go_wp2_with fail
  refine (g5 _).mono ?_
  rintro e v6 ⟨rfl, hb6⟩
  have hbw6 : Below w.heap.size w (v6.alloc (.cells #[.int .i64 0, .int .i64 0, .int .i64 0, .string ⟨#[]⟩, .slice none 0 0] 27)) := (hbw5.trans (hb6.mono hbw5.size)).alloc (Nat.le_trans hbw5.size hb6.size) _
  have z6 : Zero5 (v6.alloc (.cells #[.int .i64 0, .int .i64 0, .int .i64 0, .string ⟨#[]⟩, .slice none 0 0] 27)) w.heap.size := (z5.below hb6).below ((Below.refl _ _).alloc (Nat.le_refl _) _)
  clear hb6 hbw5 z5
  go_wp2_with fail
  refine (h _ (by exact hbw6)).mono ?_
  rintro e w2 ⟨v, rfl, hv, hb2⟩
  have hbw := hbw6.trans (hb2.mono hbw6.size)
  have hlb := hbw6.size
  have hlt := z6.1
  have HB := Lib.hid hlb
  have HC := Lib.hid hlt
  clear hlb hlt
  obtain ⟨q, q0, q1, q2, q3, q4, qf⟩ := z6.below hb2
  clear hbw6 z6 hb2
  go_wp2
  exact bodyPost_ret (v := (.agg #[.int .i64 v.x.k, .int .i64 v.x.n, .int .i64 v.x.d, .string v.x.s, .slice v.A v.m v.c])) (by simp [results, Tryz.results26, go_sem, q, q0, q1, q2, q3, q4, qf]) rfl ⟨v, rfl, hR _ _ v w2 _ hv HB.out (((((((Upon.refl _ _).setCell _ HC.out _).setCell _ HC.out _).setCell _ HC.out _).setCell _ HC.out _).setCell _ HC.out _).alloc _), (by (repeat' (first | with_reducible exact Below.refl _ _ | with_reducible refine Below.setCell ?_ ?_ _ | with_reducible refine Below.alloc ?_ ?_ _ | with_reducible refine Below.drew ?_ | with_reducible refine Below.trans ?_ (Below.mono (by assumption) ?_))); all_goals (first | omega | (simp [World.setCell]; done) | (simp [World.setCell]; omega)))⟩

/-- Call is CallOver. -/
theorem call_over (nm : ByteArray) (A : Option Addr) (n c : Nat) (R : Nat → Ve → World → Prop) (hR : Lasts R) (w : World)
    (h : ∀ W, Below w.heap.size w W → Calls Tryz.prog 26 #[.string nm, .slice A n c, .slice A n c] W (Made R W)) :
    Calls Tryz.prog 14 #[.string nm, .slice A n c] w (Made R w) := by
  go_enter Tryz.func14, Tryz.ntmps14
  go_wp2_with fail
  have hbA : Below w.heap.size w (w.alloc (.cells #[.int .i64 0, .int .i64 0, .int .i64 0, .string ⟨#[]⟩, .slice none 0 0] 27)) := (Below.refl _ _).alloc (Nat.le_refl _) _
  refine (h _ hbA).mono ?_
  rintro e w2 ⟨v, rfl, hv, hb2⟩
  have hbw := hbA.trans (hb2.mono (by simp))
  have z0 := Zero5.new w
  have hlb := hbA.size
  have hlt := z0.1
  have HB := Lib.hid hlb
  have HC := Lib.hid hlt
  clear hlb hlt
  obtain ⟨q, q0, q1, q2, q3, q4, qf⟩ := z0.below hb2
  clear hbA z0 hb2
  go_wp2
  exact bodyPost_ret (v := (.agg #[.int .i64 v.x.k, .int .i64 v.x.n, .int .i64 v.x.d, .string v.x.s, .slice v.A v.m v.c])) (by simp [results, Tryz.results14, go_sem, q, q0, q1, q2, q3, q4, qf]) rfl ⟨v, rfl, hR _ _ v w2 _ hv HB.out ((((((Upon.refl _ _).setCell _ HC.out _).setCell _ HC.out _).setCell _ HC.out _).setCell _ HC.out _).setCell _ HC.out _), (by (repeat' (first | with_reducible exact Below.refl _ _ | with_reducible refine Below.setCell ?_ ?_ _ | with_reducible refine Below.alloc ?_ ?_ _ | with_reducible refine Below.drew ?_ | with_reducible refine Below.trans ?_ (Below.mono (by assumption) ?_))); all_goals (first | omega | (simp [World.setCell]; done) | (simp [World.setCell]; omega)))⟩

/-- The value is a single one, and this. -/
def Flat1 (x : Fv) (_ : Nat) (v : Ve) (_ : World) : Prop := v = ⟨x, none, 0, 0⟩
theorem Flat1.lasts (x : Fv) : Lasts (Flat1 x) := fun _ _ _ _ _ h _ _ => h
def doubtFv : Fv := ⟨6, 0, 0, ⟨#[]⟩⟩

theorem Made.flat {x : Fv} {w : World} {e : Ending} {w' : World} (h : Made (Flat1 x) w e w') : e = .returned (.agg #[.int .i64 x.k, .int .i64 x.n, .int .i64 x.d, .string x.s, .slice none 0 0]) ∧ Below w.heap.size w w' := by
  obtain ⟨v, rfl, rfl, hb⟩ := h
  exact ⟨rfl, hb⟩
theorem Made.doubt {w : World} {e : Ending} {w' : World} (h : Made IsDoubt w e w') : Made (Flat1 doubtFv) w e w' := h

end Go.Proofs.YtdpkjhohklfieaaGreat
