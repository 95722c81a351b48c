/- Values with rows: of the reference, of the thin package and its door, of the package. -/
import Derived.Test.YtdpkjhohklfieaaGreatGr
import Derived.Test.YtdpkjhohklfieaaGreatEv
set_option linter.unusedSimpArgs false
set_option linter.unusedVariables false
namespace Go.Proofs.YtdpkjhohklfieaaGreat
open Go.RowKit
set_option maxRecDepth 100000

/-- A value of the reference: a single one, or rows of single ones. -/
structure Mv where
  x : Fv
  rows : List (List Fv)
/-- A value of the thin package, or at the door. -/
structure Mg where
  g : Gl
  rows : List (List Gl)
structure Vg where
  g : Gl
  A : Option Addr
  m : Nat
  c : Nat
def Vg.cells (v : Vg) : List Value := [.int .i64 v.g.k, .float .f64 v.g.x, .string v.g.s, .slice v.A v.m v.c]
theorem Vg.one (v : Vg) : ∀ u ∈ v.cells, u.oneCell' = true := by
  intro u hu
  simp [Vg.cells] at hu
  rcases hu with rfl | rfl | rfl | rfl <;> rfl
theorem Ve.one (v : Ve) : ∀ u ∈ v.cells, u.oneCell' = true := by
  intro u hu
  simp [Ve.cells] at hu
  rcases hu with rfl | rfl | rfl | rfl | rfl <;> rfl

def rowsV (m : Mv) : List (List (List Value)) := m.rows.map fvs
def rowsG (m : Mg) : List (List (List Value)) := m.rows.map gls
def VIs (w : World) (S : Nat → Prop) (v : Ve) (m : Mv) : Prop :=
  v.x = m.x ∧ ((m.x.k ≠ 5 ∧ m.rows = [] ∧ v.A = none ∧ v.m = 0 ∧ v.c = 0) ∨ (m.x = ⟨5, 0, 0, ⟨#[]⟩⟩ ∧ RowsIs 5 w S v.A v.m (rowsV m)))
def GIs (w : World) (S : Nat → Prop) (v : Vg) (m : Mg) : Prop :=
  v.g = m.g ∧ ((m.g.k ≠ 5 ∧ m.rows = [] ∧ v.A = none ∧ v.m = 0 ∧ v.c = 0) ∨ (m.g = ⟨5, 0, ⟨#[]⟩⟩ ∧ RowsIs 4 w S v.A v.m (rowsG m)))
def KV : Kind Ve Mv := ⟨Ve.cells, VIs, fun h hk => ⟨h.1, h.2.imp id fun h => ⟨h.1, h.2.keep hk⟩⟩, fun h hS => ⟨h.1, h.2.imp id fun h => ⟨h.1, h.2.more hS⟩⟩⟩
def KG : Kind Vg Mg := ⟨Vg.cells, GIs, fun h hk => ⟨h.1, h.2.imp id fun h => ⟨h.1, h.2.keep hk⟩⟩, fun h hS => ⟨h.1, h.2.imp id fun h => ⟨h.1, h.2.more hS⟩⟩⟩

def Mv.Ok (m : Mv) : Prop := (m.x.k ≠ 5 → m.x.Ok) ∧ m.rows.length ≤ 1000 ∧ ∀ r ∈ m.rows, r.length ≤ 1000 ∧ ∀ x ∈ r, x.Ok
def Mg.Ok (m : Mg) : Prop := (m.g.k ≠ 5 → m.g.Ok) ∧ m.rows.length ≤ 1000 ∧ ∀ r ∈ m.rows, r.length ≤ 1000 ∧ ∀ x ∈ r, x.Ok
def Mv.of (m : Mv) : Mg := ⟨m.x.of, m.rows.map fun r => r.map Fv.of⟩

theorem rowsG_of (m : Mv) : rowsG m.of = m.rows.map ofs := by
  unfold rowsG Mv.of
  rw [List.map_map]
  congr 1
  funext r
  simp [gls, ofs, Function.comp_def]

/-- The cells of the package's own form of a single value. -/
def Gl.inn (g : Gl) : List Value :=
  if g.k = 1 then [.string ⟨#[]⟩, .float .f64 (Fl.clean g.x), .string ⟨#[]⟩, .slice none 0 0, .slice none 0 0, .bool false, .string ⟨#[]⟩, .int .u8 1, .pointer none, .pointer none]
  else if g.k = 2 then [.string ⟨#[]⟩, .float .f64 0, .string g.s, .slice none 0 0, .slice none 0 0, .bool false, .string ⟨#[]⟩, .int .u8 2, .pointer none, .pointer none]
  else if g.k = 3 then [.string ⟨#[]⟩, .float .f64 g.x, .string ⟨#[]⟩, .slice none 0 0, .slice none 0 0, .bool true, .string ⟨#[]⟩, .int .u8 1, .pointer none, .pointer none]
  else if g.k = 4 then [.string ⟨#[]⟩, .float .f64 0, .string g.s, .slice none 0 0, .slice none 0 0, .bool false, .string g.s, .int .u8 5, .pointer none, .pointer none]
  else [.string ⟨#[]⟩, .float .f64 0, .string ⟨#[]⟩, .slice none 0 0, .slice none 0 0, .bool false, .string ⟨#[]⟩, .int .u8 6, .pointer none, .pointer none]
def inns (r : List Gl) : List (List Value) := r.map Gl.inn

/-- A list (container/list) all of whose blocks are of S. -/
def ListIs (w : World) (S : Nat → Prop) (LB : Nat) (vs : List Value) : Prop := S LB ∧ ∃ es, IsList w LB es vs ∧ ∀ b ∈ es, S b
theorem ListIs.more {w : World} {S S' : Nat → Prop} {LB : Nat} {vs : List Value} (h : ListIs w S LB vs) (hS : ∀ k, S k → S' k) : ListIs w S' LB vs := by
  obtain ⟨h0, es, h1, h2⟩ := h
  exact ⟨hS _ h0, es, h1, fun b hb => hS _ (h2 b hb)⟩
theorem ListIs.keep {w w' : World} {S : Nat → Prop} {LB : Nat} {vs : List Value} (h : ListIs w S LB vs) (hk : Keep S w w') : ListIs w' S LB vs := by
  obtain ⟨h0, es, h1, h2⟩ := h
  refine ⟨h0, es, ⟨h1.len, (hk LB h0).trans h1.root, fun i b v hi hv => ?_⟩, h2⟩
  obtain ⟨q, hq⟩ := h1.node i b v hi hv
  exact ⟨q, (hk b (h2 b (List.mem_of_getElem? hi))).trans hq⟩

/-- The range of cells from A1 on. -/
def cellsOf (cols rows : Nat) : Value := .iface 123 (.agg #[.int .i64 1, .int .i64 1, .string (⟨#[83, 104, 101, 101, 116, 49]⟩ : ByteArray), .int .i64 cols, .int .i64 rows, .string (⟨#[83, 104, 101, 101, 116, 49]⟩ : ByteArray)])

/-- The package's own form of a value. -/
def FIs (w : World) (S : Nat → Prop) (f : Value) (m : Mg) : Prop :=
  (m.g.k ≠ 5 ∧ m.rows = [] ∧ f = m.g.inner) ∨
  (m.g = ⟨5, 0, ⟨#[]⟩⟩ ∧ ∃ A c p q, f = .agg #[.string ⟨#[]⟩, .float .f64 0, .string ⟨#[]⟩, .slice none 0 0, .slice A m.rows.length c, .bool false, .string ⟨#[]⟩, .int .u8 4, .pointer (some ⟨p, 0, none⟩), .pointer (some ⟨q, 0, none⟩)] ∧
    RowsIs 10 w S A m.rows.length (m.rows.map inns) ∧ ListIs w S p [] ∧ ListIs w S q [cellsOf (m.rows.headD []).length m.rows.length])
def KF : Kind Value Mg :=
  ⟨fun f => [.iface 67 f], FIs, fun h hk => h.imp id fun ⟨h1, A, c, p, q, h2, h3, h4, h5⟩ => ⟨h1, A, c, p, q, h2, h3.keep hk, h4.keep hk, h5.keep hk⟩,
    fun h hS => h.imp id fun ⟨h1, A, c, p, q, h2, h3, h4, h5⟩ => ⟨h1, A, c, p, q, h2, h3.more hS, h4.more hS, h5.more hS⟩⟩

theorem KV.old {w w' : World} {v : Ve} {m : Mv} {B : Nat} (h : VIs w (New B w) v m) (hb : Below w.heap.size w w') : VIs w' (· < w'.heap.size) v m :=
  KV.more (KV.keep h (Keep.below hb fun _ hk => hk.2)) fun _ hk => Nat.lt_of_lt_of_le hk.2 hb.size
theorem KV.on {w w' : World} {v : Ve} {m : Mv} (h : VIs w (· < w.heap.size) v m) (hb : Below w.heap.size w w') : VIs w' (· < w'.heap.size) v m :=
  KV.more (KV.keep h (Keep.below hb fun _ hk => hk)) fun _ hk => Nat.lt_of_lt_of_le hk hb.size
theorem KV.allOn {w w' : World} {G : List Ve} {M : List Mv} (h : KV.all w (· < w.heap.size) G M) (hb : Below w.heap.size w w') : KV.all w' (· < w'.heap.size) G M :=
  (h.keep (Keep.below hb fun _ hk => hk)).more fun _ hk => Nat.lt_of_lt_of_le hk hb.size

/-- The arguments in memory. -/
def ArgsIn (w : World) (b off : Nat) (G : List Ve) (M : List Mv) : Prop := b < w.heap.size ∧ Row w b off 5 (G.map Ve.cells) ∧ KV.all w (· < w.heap.size) G M ∧ ∀ m ∈ M, m.Ok
theorem ArgsIn.below {w w' : World} {b off : Nat} {G : List Ve} {M : List Mv} (h : ArgsIn w b off G M) (hb : Below w.heap.size w w') : ArgsIn w' b off G M :=
  ⟨Nat.lt_of_lt_of_le h.1 hb.size, h.2.1.below hb h.1, KV.allOn h.2.2.1 hb, h.2.2.2⟩
/-- What the program's function is called with. -/
def ArgsOut (w : World) (g : Nat) (G : List Vg) (M : List Mg) : Prop := g < w.heap.size ∧ Row w g 0 4 (G.map Vg.cells) ∧ KG.all w (· < w.heap.size) G M

end Go.Proofs.YtdpkjhohklfieaaGreat
