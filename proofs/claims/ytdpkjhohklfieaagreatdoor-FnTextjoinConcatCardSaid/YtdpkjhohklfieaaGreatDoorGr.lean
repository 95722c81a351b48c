/- Values with rows: what lies in which blocks, while it is read, and while rows of it are built. -/
import Derived.Test.YtdpkjhohklfieaaGreatDoorS
set_option linter.unusedSimpArgs false
set_option linter.unusedVariables false
namespace Go.Proofs.YtdpkjhohklfieaaGreatDoor
open Go.RowKit
set_option maxRecDepth 100000

theorem Owns.grown {w w' : World} {base : Nat} {e : TypeId} {size : Nat} {v : Value} {cs : List (List Value)} {row : Option Nat} (h : Owns w base e size v cs) (hg : w.grownBy w' row) (hne : v.ownBlock = none ∨ v.ownBlock ≠ row) : Owns w' base e size v cs :=
  ⟨h.1.kept hg hne, h.2⟩
theorem Owns.below {w w' : World} {base : Nat} {e : TypeId} {size : Nat} {v : Value} {cs : List (List Value)} (h : Owns w base e size v cs) (hb : Below w.heap.size w w') : Owns w' base e size v cs :=
  h.grown (row := none) ⟨hb.os, hb.tape, hb.output, hb.size, fun i hi _ => hb.block i hi⟩ (by cases hv : Value.ownBlock v <;> simp)
theorem Owns.lower {w : World} {base base' : Nat} {e : TypeId} {size : Nat} {v : Value} {cs : List (List Value)} (h : Owns w base e size v cs) (hb : base' ≤ base) : Owns w base' e size v cs := by
  refine ⟨⟨h.1.1, ?_⟩, h.2⟩
  rcases h.1.2 with hn | ⟨g, cap, cur, h1, h2, h3⟩
  · exact .inl hn
  · exact .inr ⟨g, cap, cur, h1, Nat.le_trans hb h2, h3⟩
theorem Owns.block_lt {w : World} {base : Nat} {e : TypeId} {size : Nat} {v : Value} {cs : List (List Value)} (h : Owns w base e size v cs) : v.ownBlock = none ∨ ∃ g, v.ownBlock = some g ∧ base ≤ g ∧ g < w.heap.size := by
  rcases h.1.2 with ⟨rfl, _⟩ | ⟨g, cap, cur, rfl, h2, h3, _⟩
  · exact .inl rfl
  · exact .inr ⟨g, rfl, h2, (Array.getElem?_eq_some_iff.1 h3).1⟩
theorem Owns.far {w : World} {base : Nat} {e : TypeId} {size : Nat} {v : Value} {cs : List (List Value)} (h : Owns w base e size v cs) {p : Addr} (hp : p.block < base) (u : Value) : Owns (w.setCell p u) base e size v cs := by
  refine h.grown (row := some p.block) ⟨rfl, rfl, rfl, by simp [size_setCell], fun k _ hne => Below.heap_setCell w p u k (fun h => hne (by rw [h]))⟩ ?_
  rcases h.block_lt with hn | ⟨g, hg, hl, _⟩
  · exact .inl hn
  · right
    rw [hg]
    intro heq
    injection heq with heq
    omega

/-- The blocks of S hold in w' what they held in w. -/
def Keep (S : Nat → Prop) (w w' : World) : Prop := ∀ k, S k → w'.heap[k]? = w.heap[k]?
theorem Keep.below {S : Nat → Prop} {w w' : World} {B : Nat} (h : Below B w w') (hS : ∀ k, S k → k < B) : Keep S w w' := fun k hk => h.block k (hS k hk)
theorem Keep.refl (S : Nat → Prop) (w : World) : Keep S w w := fun _ _ => rfl
theorem Keep.set {S : Nat → Prop} {w w' : World} (h : Keep S w w') {p : Addr} (hp : ∀ k, S k → k ≠ p.block) (u : Value) : Keep S w (w'.setCell p u) :=
  fun k hk => (Below.heap_setCell w' p u k (hp k hk)).trans (h k hk)
theorem Keep.trans {S : Nat → Prop} {a b c : World} (h : Keep S a b) (k : Keep S b c) : Keep S a c := fun i hi => (k i hi).trans (h i hi)
theorem Keep.cell {S : Nat → Prop} {w w' : World} (h : Keep S w w') {b o : Nat} (hb : S b) : w'.cell? ⟨b, o, none⟩ = w.cell? ⟨b, o, none⟩ := World.cell?_of_block (h b hb)
theorem Keep.row {S : Nat → Prop} {w w' : World} (h : Keep S w w') {b off size : Nat} {cs : List (List Value)} (hb : S b) (hr : Row w b off size cs) : Row w' b off size cs :=
  fun i c hi => ⟨(hr i c hi).1, fun j v hj => (h.cell hb).trans ((hr i c hi).2 j v hj)⟩

/-- A slice header under which so many elements lie, in a block of S; there is at least one. -/
def RowIs (size : Nat) (w : World) (S : Nat → Prop) (h : Value) (r : List (List Value)) : Prop :=
  r ≠ [] ∧ ∃ b off c, h = .slice (some ⟨b, off, none⟩) r.length c ∧ S b ∧ Row w b off size r
theorem RowIs.keep {size : Nat} {w w' : World} {S : Nat → Prop} {h : Value} {r : List (List Value)} (hr : RowIs size w S h r) (hk : Keep S w w') : RowIs size w' S h r := by
  obtain ⟨h0, b, off, c, h1, h2, h3⟩ := hr
  exact ⟨h0, b, off, c, h1, h2, hk.row h2 h3⟩
theorem RowIs.more {size : Nat} {w : World} {S S' : Nat → Prop} {h : Value} {r : List (List Value)} (hr : RowIs size w S h r) (hS : ∀ k, S k → S' k) : RowIs size w S' h r := by
  obtain ⟨h0, b, off, c, h1, h2, h3⟩ := hr
  exact ⟨h0, b, off, c, h1, hS _ h2, h3⟩

/-- Rows of elements of so many cells, all in blocks of S; there is at least one. -/
def RowsIs (size : Nat) (w : World) (S : Nat → Prop) (A : Option Addr) (m : Nat) (rows : List (List (List Value))) : Prop :=
  rows ≠ [] ∧ m = rows.length ∧ ∃ b off, A = some ⟨b, off, none⟩ ∧ S b ∧ ∀ i r, rows[i]? = some r → ∃ h, w.cell? ⟨b, off + i, none⟩ = some h ∧ RowIs size w S h r
theorem RowsIs.keep {size : Nat} {w w' : World} {S : Nat → Prop} {A : Option Addr} {m : Nat} {rows : List (List (List Value))} (h : RowsIs size w S A m rows) (hk : Keep S w w') : RowsIs size w' S A m rows := by
  obtain ⟨h0, hm, b, off, h1, h2, h3⟩ := h
  refine ⟨h0, hm, b, off, h1, h2, fun i r hi => ?_⟩
  obtain ⟨v, hv, hr⟩ := h3 i r hi
  exact ⟨v, (hk.cell h2).trans hv, hr.keep hk⟩
theorem RowsIs.more {size : Nat} {w : World} {S S' : Nat → Prop} {A : Option Addr} {m : Nat} {rows : List (List (List Value))} (h : RowsIs size w S A m rows) (hS : ∀ k, S k → S' k) : RowsIs size w S' A m rows := by
  obtain ⟨h0, hm, b, off, h1, h2, h3⟩ := h
  refine ⟨h0, hm, b, off, h1, hS _ h2, fun i r hi => ?_⟩
  obtain ⟨v, hv, hr⟩ := h3 i r hi
  exact ⟨v, hv, hr.more hS⟩

/-- How things of a kind lie in memory: ε, as its cells tell; α, what it stands for. -/
structure Kind (ε α : Type) where
  cells : ε → List Value
  is : World → (Nat → Prop) → ε → α → Prop
  keep : ∀ {w w' : World} {S : Nat → Prop} {g : ε} {m : α}, is w S g m → Keep S w w' → is w' S g m
  more : ∀ {w : World} {S S' : Nat → Prop} {g : ε} {m : α}, is w S g m → (∀ k, S k → S' k) → is w S' g m

/-- Rows, by their headers. -/
def KRow (size : Nat) : Kind Value (List (List Value)) := ⟨fun h => [h], RowIs size, RowIs.keep, RowIs.more⟩

def New (base : Nat) (w : World) : Nat → Prop := fun k => base ≤ k ∧ k < w.heap.size
def NewBut (base : Nat) (w : World) (y : Value) : Nat → Prop := fun k => base ≤ k ∧ k < w.heap.size ∧ (y.ownBlock = none ∨ y.ownBlock ≠ some k)

section
variable {ε α : Type} (K : Kind ε α)
/-- Things of a kind in a list. -/
def Kind.all (w : World) (S : Nat → Prop) (G : List ε) (M : List α) : Prop := G.length = M.length ∧ ∀ (i : Nat) (g : ε) (m : α), G[i]? = some g → M[i]? = some m → K.is w S g m
/-- A slice of one's own that is being built, with things of a kind. -/
def Kind.Many (w : World) (base : Nat) (e : TypeId) (size : Nat) (y : Value) (G : List ε) (M : List α) : Prop :=
  Owns w base e size y (G.map K.cells) ∧ K.all w (NewBut base w y) G M
end

section
variable {ε α : Type} {K : Kind ε α}
theorem Kind.all.keep {w w' : World} {S : Nat → Prop} {G : List ε} {M : List α} (h : K.all w S G M) (hk : Keep S w w') : K.all w' S G M :=
  ⟨h.1, fun i g m hi hm => K.keep (h.2 i g m hi hm) hk⟩
theorem Kind.all.more {w : World} {S S' : Nat → Prop} {G : List ε} {M : List α} (h : K.all w S G M) (hS : ∀ k, S k → S' k) : K.all w S' G M :=
  ⟨h.1, fun i g m hi hm => K.more (h.2 i g m hi hm) hS⟩
theorem Kind.all.snoc {w : World} {S : Nat → Prop} {G : List ε} {M : List α} {g : ε} {m : α} (h : K.all w S G M) (hg : K.is w S g m) : K.all w S (G ++ [g]) (M ++ [m]) := by
  refine ⟨by simp [h.1], fun i a b ha hb => ?_⟩
  by_cases hi : i < G.length
  · rw [List.getElem?_append_left hi] at ha
    rw [List.getElem?_append_left (by rw [← h.1]; exact hi)] at hb
    exact h.2 i a b ha hb
  · have hil : i = G.length := by
      have := (List.getElem?_eq_some_iff.1 ha).1
      simp at this
      omega
    subst hil
    simp at ha
    rw [h.1] at hb
    simp at hb
    subst ha hb
    exact hg
theorem Kind.all.one {w : World} {S : Nat → Prop} {g : ε} {m : α} (hg : K.is w S g m) : K.all w S [g] [m] := by
  have h0 : K.all w S [] [] := ⟨rfl, by simp⟩
  have := h0.snoc hg
  simpa using this

theorem Kind.Many.nil (w : World) (base : Nat) (e : TypeId) (size : Nat) : K.Many w base e size (.slice none 0 0) [] [] := ⟨Owns.nil_ _ _ _ _, rfl, by simp⟩
theorem Kind.Many.len {w : World} {base : Nat} {e : TypeId} {size : Nat} {y : Value} {G : List ε} {M : List α} (h : K.Many w base e size y G M) : G.length = M.length := h.2.1
theorem Kind.Many.below {w w' : World} {base : Nat} {e : TypeId} {size : Nat} {y : Value} {G : List ε} {M : List α} (h : K.Many w base e size y G M) (hb : Below w.heap.size w w') : K.Many w' base e size y G M :=
  ⟨h.1.below hb, (h.2.keep (Keep.below hb fun k hk => hk.2.1)).more fun k hk => ⟨hk.1, Nat.lt_of_lt_of_le hk.2.1 hb.size, hk.2.2⟩⟩
theorem Kind.Many.alloc {w : World} {base : Nat} {e : TypeId} {size : Nat} {y : Value} {G : List ε} {M : List α} (h : K.Many w base e size y G M) (o : Obj) : K.Many (w.alloc o) base e size y G M :=
  h.below ((Below.refl _ _).alloc (Nat.le_refl _) _)
theorem Kind.Many.far {w : World} {base : Nat} {e : TypeId} {size : Nat} {y : Value} {G : List ε} {M : List α} (h : K.Many w base e size y G M) {p : Addr} (hp : p.block < base) (u : Value) : K.Many (w.setCell p u) base e size y G M :=
  ⟨h.1.far hp u, (h.2.keep fun k hk => Below.heap_setCell w p u k (by have := hk.1; omega)).more fun k hk => ⟨hk.1, by rw [size_setCell]; exact hk.2.1, hk.2.2⟩⟩
/-- One thing more, made in blocks that are not those of y, is appended to y, which becomes y'. -/
theorem Kind.Many.snoc {w w' : World} {base : Nat} {e : TypeId} {size : Nat} {y y' : Value} {G : List ε} {M : List α} {g : ε} {m : α} {S : Nat → Prop} (h : K.Many w base e size y G M)
    (hg : w.grownBy w' y.ownBlock) (hm : K.is w S g m) (hS : ∀ k, S k → NewBut base w y k) (hy : y'.ownBlock = y.ownBlock ∨ ∃ k, y'.ownBlock = some k ∧ w.heap.size ≤ k)
    (ho : Owns w' base e size y' (G.map K.cells ++ [K.cells g])) : K.Many w' base e size y' (G ++ [g]) (M ++ [m]) := by
  refine ⟨by simpa using ho, ?_⟩
  have hk : Keep (NewBut base w y) w w' := fun k hk => hg.block k hk.2.1 (by
    rcases hk.2.2 with h' | h'
    · rw [h']; simp
    · exact fun heq => h' heq.symm)
  refine ((h.2.snoc (K.more hm hS)).keep hk).more fun k hk => ⟨hk.1, Nat.lt_of_lt_of_le hk.2.1 hg.size, ?_⟩
  rcases hy with hy | ⟨q, hq, hle⟩
  · rw [hy]; exact hk.2.2
  · right
    rw [hq]
    intro heq
    injection heq with heq
    have := hk.2.1
    omega
/-- The same, behind a call that made the thing, and the laying of its box. -/
theorem Kind.Many.push {wr w1 w2 : World} {o : Obj} {base : Nat} {e : TypeId} {size : Nat} {y y' : Value} {G : List ε} {M : List α} {g : ε} {m : α} (h : K.Many wr base e size y G M) (hbase : base ≤ wr.heap.size)
    (hb1 : Below wr.heap.size wr w1) (hm : K.is w1 (New wr.heap.size w1) g m) (ho : Owns w2 base e size y' (G.map K.cells ++ [K.cells g])) (hg : (w1.alloc o).grownBy w2 y.ownBlock)
    (hy : y'.ownBlock = y.ownBlock ∨ ∃ k, y'.ownBlock = some k ∧ (w1.alloc o).heap.size ≤ k) : K.Many w2 base e size y' (G ++ [g]) (M ++ [m]) ∧ Below base wr w2 := by
  have hz := hb1.size
  have hbl := h.1.block_lt
  refine ⟨((h.below hb1).alloc o).snoc hg (K.keep hm (Keep.below ((Below.refl _ _).alloc (Nat.le_refl _) o) fun k hk => hk.2)) (fun k hk => ⟨Nat.le_trans hbase hk.1, ?_, ?_⟩) hy ho, ?_⟩
  · have := hk.2
    rw [World.size_alloc]; omega
  · rcases hbl with hn | ⟨q, hq, _, hlt⟩
    · exact .inl hn
    · right
      rw [hq]
      intro heq
      injection heq with heq
      have := hk.1
      omega
  · refine ((hb1.mono hbase).alloc (by omega) o).grown hg (by rw [World.size_alloc]; omega) ?_
    intro k hk
    rcases hbl with hn | ⟨q, hq, hl, _⟩
    · rw [hn] at hk; cases hk
    · rw [hq] at hk; injection hk with hk; omega
/-- What is built, as it is read. -/
theorem Kind.Many.out {w : World} {base : Nat} {e : TypeId} {size : Nat} {y : Value} {G : List ε} {M : List α} (h : K.Many w base e size y G M) (hn : M ≠ []) :
    ∃ g cap, y = .slice (some ⟨g, 0, none⟩) M.length cap ∧ New base w g ∧ Row w g 0 size (G.map K.cells) ∧ K.all w (New base w) G M := by
  have hne : G.map K.cells ≠ [] := by
    intro h'
    have : G = [] := by simpa using h'
    subst this
    exact hn (List.eq_nil_of_length_eq_zero h.2.1.symm)
  obtain ⟨g, cap, rfl, hb, hlt, _, _, hrow⟩ := h.1.row hne
  exact ⟨g, cap, by simp [h.2.1], ⟨hb, hlt⟩, hrow, h.2.more fun k hk => ⟨hk.1, hk.2.1⟩⟩
end

/-- Rows that are built, as they are read. -/
theorem rows_out {w : World} {base : Nat} {e : TypeId} {size : Nat} {y : Value} {G : List Value} {M : List (List (List Value))} (h : (KRow size).Many w base e 1 y G M) (hn : M ≠ []) :
    ∃ g cap, y = .slice (some ⟨g, 0, none⟩) M.length cap ∧ New base w g ∧ RowsIs size w (New base w) (some ⟨g, 0, none⟩) M.length M := by
  obtain ⟨g, cap, rfl, hg, hrow, hall⟩ := h.out hn
  refine ⟨g, cap, rfl, hg, hn, rfl, g, 0, rfl, hg, fun i r hi => ?_⟩
  have hil : i < G.length := by rw [hall.1]; exact (List.getElem?_eq_some_iff.1 hi).1
  obtain ⟨v, hv⟩ : ∃ v, G[i]? = some v := ⟨_, List.getElem?_eq_getElem hil⟩
  refine ⟨v, ?_, hall.2 i v r hv hi⟩
  have := (hrow i [v] (by rw [List.getElem?_map, hv]; rfl)).2 0 v rfl
  simpa using this

/-- A row of one's own, as it is read. -/
theorem Owns.rowIs {w : World} {base : Nat} {e : TypeId} {size : Nat} {y : Value} {cs : List (List Value)} (h : Owns w base e size y cs) (hn : cs ≠ []) : RowIs size w (New base w) y cs := by
  obtain ⟨g, cap, rfl, hb, hlt, _, _, hrow⟩ := h.row hn
  exact ⟨hn, g, 0, cap, rfl, ⟨hb, hlt⟩, hrow⟩

end Go.Proofs.YtdpkjhohklfieaaGreatDoor
