/- Rows of elements of several cells; a row of one's own that grows by one element; the door in for lists of single values. -/
import Derived.Test.YtdpkjhohklfieaaGreatDoorL
set_option linter.unusedSimpArgs false
set_option linter.unusedVariables false
namespace Go.Proofs.YtdpkjhohklfieaaGreatDoor
open Go.RowKit
set_option maxRecDepth 100000

/-- From (b, off) on lie elements of so many cells each: element i has the cells cs[i]. -/
def Row (w : World) (b off size : Nat) (cs : List (List Value)) : Prop :=
  ∀ i c, cs[i]? = some c → c.length = size ∧ ∀ j v, c[j]? = some v → w.cell? ⟨b, off + i * size + j, none⟩ = some v

theorem Row.below {w w' : World} {b off size : Nat} {cs : List (List Value)} (h : Row w b off size cs) {B : Nat} (hb : Below B w w') (hB : b < B) : Row w' b off size cs :=
  fun i c hi => ⟨(h i c hi).1, fun j v hj => (hb.cell (p := ⟨b, off + i * size + j, none⟩) hB).trans ((h i c hi).2 j v hj)⟩

/-- The slice value v owns the elements cs, of so many cells each. -/
def Owns (w : World) (base : Nat) (e : TypeId) (size : Nat) (v : Value) (cs : List (List Value)) : Prop :=
  w.ownsRow base e size v cs.length cs.flatten ∧ ∀ c ∈ cs, c.length = size

theorem flatten_getElem (cs : List (List Value)) (size : Nat) (h : ∀ c ∈ cs, c.length = size) : ∀ (i : Nat) (c : List Value), cs[i]? = some c → ∀ j v, c[j]? = some v → cs.flatten[i * size + j]? = some v := by
  induction cs with
  | nil => intro i c hi; simp at hi
  | cons x xs ih =>
    intro i c hi j v hj
    have hx : x.length = size := h x (List.mem_cons_self ..)
    cases i with
    | zero =>
      simp at hi; subst hi
      have hjl : j < x.length := (List.getElem?_eq_some_iff.1 hj).1
      rw [List.flatten_cons, Nat.zero_mul, Nat.zero_add, List.getElem?_append_left hjl]
      exact hj
    | succ i =>
      simp at hi
      rw [List.flatten_cons, List.getElem?_append_right (by rw [hx, Nat.succ_mul]; omega)]
      have := ih (fun c hc => h c (List.mem_cons_of_mem _ hc)) i c hi j v hj
      rwa [show (i + 1) * size + j - x.length = i * size + j by rw [hx, Nat.succ_mul]; omega]

theorem Owns.nil_ (w : World) (base : Nat) (e : TypeId) (size : Nat) : Owns w base e size (.slice none 0 0) [] := ⟨World.ownsRow_nil w base e size, by simp⟩

/-- What an owned row is as a slice that is read. -/
theorem Owns.row {w : World} {base : Nat} {e : TypeId} {size : Nat} {v : Value} {cs : List (List Value)} (h : Owns w base e size v cs) (hn : cs ≠ []) :
    ∃ g cap, v = .slice (some ⟨g, 0, none⟩) cs.length cap ∧ base ≤ g ∧ g < w.heap.size ∧ cs.length ≤ cap ∧ cap ≤ maxLen ∧ Row w g 0 size cs := by
  have hlt := h.1.lt
  have hcells := fun g => h.1.cells (g := g)
  rcases h.1.2 with ⟨rfl, h0⟩ | ⟨g, cap, cur, rfl, hb, hg, hnc, hcm, _, _⟩
  · exact absurd (List.eq_nil_of_length_eq_zero h0) hn
  · refine ⟨g, cap, rfl, hb, (hlt g rfl).2, hnc, hcm, fun i c hi => ⟨h.2 c (List.mem_of_getElem? hi), fun j v hj => ?_⟩⟩
    have := hcells g rfl _ _ (flatten_getElem cs size h.2 i c hi j v hj)
    have hadd : (⟨g, 0, none⟩ : Addr).add (i * size + j) = ⟨g, 0 + i * size + j, none⟩ := by unfold Addr.add; split <;> simp_all
    rwa [hadd] at this

/-- A single value of the thin package, or of a door: kind, bits, text. -/
structure Gl where
  k : Int
  x : Nat
  s : ByteArray
def Gl.cells (g : Gl) : List Value := [.int .i64 g.k, .float .f64 g.x, .string g.s, .slice none 0 0]
/-- The values that come: no NaN; a truth is 1 or 0. -/
def Gl.Ok (g : Gl) : Prop := g.k = 0 ∨ (g.k = 1 ∧ Fl.Num g.x) ∨ g.k = 2 ∨ (g.k = 3 ∧ ∃ b, g.x = bb b) ∨ g.k = 4
/-- The package's own form of it. -/
def Gl.inner (g : Gl) : Value :=
  if g.k = 1 then (.agg #[.string ⟨#[]⟩, .float .f64 (Fl.clean g.x), .string ⟨#[]⟩, .slice none 0 0, .slice none 0 0, .bool false, .string ⟨#[]⟩, .int .u8 1, .pointer none, .pointer none])
  else if g.k = 2 then (.agg #[.string ⟨#[]⟩, .float .f64 0, .string g.s, .slice none 0 0, .slice none 0 0, .bool false, .string ⟨#[]⟩, .int .u8 2, .pointer none, .pointer none])
  else if g.k = 3 then (.agg #[.string ⟨#[]⟩, .float .f64 g.x, .string ⟨#[]⟩, .slice none 0 0, .slice none 0 0, .bool true, .string ⟨#[]⟩, .int .u8 1, .pointer none, .pointer none])
  else if g.k = 4 then (.agg #[.string ⟨#[]⟩, .float .f64 0, .string g.s, .slice none 0 0, .slice none 0 0, .bool false, .string g.s, .int .u8 5, .pointer none, .pointer none])
  else (.agg #[.string ⟨#[]⟩, .float .f64 0, .string ⟨#[]⟩, .slice none 0 0, .slice none 0 0, .bool false, .string ⟨#[]⟩, .int .u8 6, .pointer none, .pointer none])

theorem innerArg_0 (x : Nat) (s : ByteArray) (w : World) :
    Calls Tryz.prog 43 #[(.agg #[.int .i64 0, .float .f64 x, .string s, .slice none 0 0])] w fun e w' => e = .returned (.agg #[.string ⟨#[]⟩, .float .f64 0, .string ⟨#[]⟩, .slice none 0 0, .slice none 0 0, .bool false, .string ⟨#[]⟩, .int .u8 6, .pointer none, .pointer none]) ∧ Below w.heap.size w w' := by
  go_enter Tryz.func43, Tryz.ntmps43
  go_wp2_with (go_at_call 59; refine (newEmpty_any _).mono ?_; rintro e w1 ⟨rfl, hb1⟩; obtain ⟨hc1, hf1, hz1⟩ := bcell hb1; try simp only [World.size_alloc, size_setCell] at hz1)
  exact bodyPost_ret (v := (.agg #[.string ⟨#[]⟩, .float .f64 0, .string ⟨#[]⟩, .slice none 0 0, .slice none 0 0, .bool false, .string ⟨#[]⟩, .int .u8 6, .pointer none, .pointer none])) (by simp [results, Tryz.results43, go_sem, hc1]) rfl ⟨rfl, (by (repeat' (first | with_reducible exact Below.refl _ _ | with_reducible refine Below.setCell ?_ ?_ _ | with_reducible refine Below.alloc ?_ ?_ _ | with_reducible refine Below.drew ?_ | with_reducible refine Below.trans ?_ (Below.mono (by assumption) ?_))); all_goals (first | omega | (simp [World.setCell]; done) | (simp [World.setCell]; omega)))⟩

theorem innerArg_1 (x : Nat) (hx : Fl.Num x) (s : ByteArray) (w : World) :
    Calls Tryz.prog 43 #[(.agg #[.int .i64 1, .float .f64 x, .string s, .slice none 0 0])] w fun e w' => e = .returned (.agg #[.string ⟨#[]⟩, .float .f64 (Fl.clean x), .string ⟨#[]⟩, .slice none 0 0, .slice none 0 0, .bool false, .string ⟨#[]⟩, .int .u8 1, .pointer none, .pointer none]) ∧ Below w.heap.size w w' := by
  go_enter Tryz.func43, Tryz.ntmps43
  go_wp2_with (go_at_call 56; refine (newNumber_any _ hx _).mono ?_; rintro e w1 ⟨rfl, hb1⟩; obtain ⟨hc1, hf1, hz1⟩ := bcell hb1; try simp only [World.size_alloc, size_setCell] at hz1)
  exact bodyPost_ret (v := (.agg #[.string ⟨#[]⟩, .float .f64 (Fl.clean x), .string ⟨#[]⟩, .slice none 0 0, .slice none 0 0, .bool false, .string ⟨#[]⟩, .int .u8 1, .pointer none, .pointer none])) (by simp [results, Tryz.results43, go_sem, hc1]) rfl ⟨rfl, (by (repeat' (first | with_reducible exact Below.refl _ _ | with_reducible refine Below.setCell ?_ ?_ _ | with_reducible refine Below.alloc ?_ ?_ _ | with_reducible refine Below.drew ?_ | with_reducible refine Below.trans ?_ (Below.mono (by assumption) ?_))); all_goals (first | omega | (simp [World.setCell]; done) | (simp [World.setCell]; omega)))⟩

theorem innerArg_2 (x : Nat) (s : ByteArray) (w : World) :
    Calls Tryz.prog 43 #[(.agg #[.int .i64 2, .float .f64 x, .string s, .slice none 0 0])] w fun e w' => e = .returned (.agg #[.string ⟨#[]⟩, .float .f64 0, .string s, .slice none 0 0, .slice none 0 0, .bool false, .string ⟨#[]⟩, .int .u8 2, .pointer none, .pointer none]) ∧ Below w.heap.size w w' := by
  go_enter Tryz.func43, Tryz.ntmps43
  go_wp2_with (go_at_call 35; refine (newString_any _ _).mono ?_; rintro e w1 ⟨rfl, hb1⟩; obtain ⟨hc1, hf1, hz1⟩ := bcell hb1; try simp only [World.size_alloc, size_setCell] at hz1)
  exact bodyPost_ret (v := (.agg #[.string ⟨#[]⟩, .float .f64 0, .string s, .slice none 0 0, .slice none 0 0, .bool false, .string ⟨#[]⟩, .int .u8 2, .pointer none, .pointer none])) (by simp [results, Tryz.results43, go_sem, hc1]) rfl ⟨rfl, (by (repeat' (first | with_reducible exact Below.refl _ _ | with_reducible refine Below.setCell ?_ ?_ _ | with_reducible refine Below.alloc ?_ ?_ _ | with_reducible refine Below.drew ?_ | with_reducible refine Below.trans ?_ (Below.mono (by assumption) ?_))); all_goals (first | omega | (simp [World.setCell]; done) | (simp [World.setCell]; omega)))⟩

theorem ne_zero_bb (b : Bool) : (FloatKind.f64.format.order (bb b) 0 != some .eq) = b := by cases b <;> decide +kernel

theorem innerArg_3 (b : Bool) (s : ByteArray) (w : World) :
    Calls Tryz.prog 43 #[(.agg #[.int .i64 3, .float .f64 (bb b), .string s, .slice none 0 0])] w fun e w' => e = .returned (.agg #[.string ⟨#[]⟩, .float .f64 (bb b), .string ⟨#[]⟩, .slice none 0 0, .slice none 0 0, .bool true, .string ⟨#[]⟩, .int .u8 1, .pointer none, .pointer none]) ∧ Below w.heap.size w w' := by
  have hb := ne_zero_bb b
  go_enter Tryz.func43, Tryz.ntmps43
  go_wp2_with (go_at_call 57; refine (newBool_any b _).mono ?_; rintro e w1 ⟨rfl, hb1⟩; obtain ⟨hc1, hf1, hz1⟩ := bcell hb1; try simp only [World.size_alloc, size_setCell] at hz1)
  exact bodyPost_ret (v := (.agg #[.string ⟨#[]⟩, .float .f64 (bb b), .string ⟨#[]⟩, .slice none 0 0, .slice none 0 0, .bool true, .string ⟨#[]⟩, .int .u8 1, .pointer none, .pointer none])) (by simp [results, Tryz.results43, go_sem, hc1]) rfl ⟨rfl, (by (repeat' (first | with_reducible exact Below.refl _ _ | with_reducible refine Below.setCell ?_ ?_ _ | with_reducible refine Below.alloc ?_ ?_ _ | with_reducible refine Below.drew ?_ | with_reducible refine Below.trans ?_ (Below.mono (by assumption) ?_))); all_goals (first | omega | (simp [World.setCell]; done) | (simp [World.setCell]; omega)))⟩

theorem innerArg_4 (x : Nat) (s : ByteArray) (w : World) :
    Calls Tryz.prog 43 #[(.agg #[.int .i64 4, .float .f64 x, .string s, .slice none 0 0])] w fun e w' => e = .returned (.agg #[.string ⟨#[]⟩, .float .f64 0, .string s, .slice none 0 0, .slice none 0 0, .bool false, .string s, .int .u8 5, .pointer none, .pointer none]) ∧ Below w.heap.size w w' := by
  go_enter Tryz.func43, Tryz.ntmps43
  go_wp2_with (go_at_call 34; refine (newError_any _ _ _).mono ?_; rintro e w1 ⟨rfl, hb1⟩; obtain ⟨hc1, hf1, hz1⟩ := bcell hb1; try simp only [World.size_alloc, size_setCell] at hz1)
  exact bodyPost_ret (v := (.agg #[.string ⟨#[]⟩, .float .f64 0, .string s, .slice none 0 0, .slice none 0 0, .bool false, .string s, .int .u8 5, .pointer none, .pointer none])) (by simp [results, Tryz.results43, go_sem, hc1]) rfl ⟨rfl, (by (repeat' (first | with_reducible exact Below.refl _ _ | with_reducible refine Below.setCell ?_ ?_ _ | with_reducible refine Below.alloc ?_ ?_ _ | with_reducible refine Below.drew ?_ | with_reducible refine Below.trans ?_ (Below.mono (by assumption) ?_))); all_goals (first | omega | (simp [World.setCell]; done) | (simp [World.setCell]; omega)))⟩

theorem innerArg_flat (g : Gl) (hg : g.Ok) (w : World) :
    Calls Tryz.prog 43 #[(.agg #[.int .i64 g.k, .float .f64 g.x, .string g.s, .slice none 0 0])] w fun e w' => e = .returned g.inner ∧ Below w.heap.size w w' := by
  obtain ⟨k, x, s⟩ := g
  rcases hg with h | ⟨h, hx⟩ | h | ⟨h, b, hx⟩ | h
  · cases h; exact innerArg_0 x s w
  · cases h; exact innerArg_1 x hx s w
  · cases h; exact innerArg_2 x s w
  · cases h; cases hx; exact innerArg_3 b s w
  · cases h; exact innerArg_4 x s w

end Go.Proofs.YtdpkjhohklfieaaGreatDoor
