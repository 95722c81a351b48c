/- COUNTBLANK of a range, in the package. -/
import Derived.Test.YtdpkjhohklfieaaGreatPl
set_option linter.unusedSimpArgs false
set_option linter.unusedVariables false
namespace Go.Proofs.YtdpkjhohklfieaaGreat
open Go.RowKit
set_option maxRecDepth 100000
set_option maxHeartbeats 1000000

/-- The package's type of a single value. -/
def tyOf (g : Gl) : Int := if g.k = 1 then 1 else if g.k = 2 then 2 else if g.k = 3 then 1 else if g.k = 4 then 5 else 6
theorem Gl.form10t (g : Gl) : ∃ (x : Nat) (s : ByteArray) (b : Bool) (e : ByteArray), g.inner = (.agg #[.string ⟨#[]⟩, .float .f64 x, .string s, .slice none 0 0, .slice none 0 0, .bool b, .string e, .int .u8 (tyOf g), .pointer none, .pointer none]) ∧ g.inn = fcells x s b e (tyOf g) := by
  unfold Gl.inner Gl.inn fcells tyOf
  split
  · exact ⟨_, _, _, _, rfl, rfl⟩
  · split
    · exact ⟨_, _, _, _, rfl, rfl⟩
    · split
      · exact ⟨_, _, _, _, rfl, rfl⟩
      · split
        · exact ⟨_, _, _, _, rfl, rfl⟩
        · exact ⟨_, _, _, _, rfl, rfl⟩
def zc (gs : List Gl) : Nat := (gs.filter fun g => tyOf g == 6).length
theorem zc_snoc (gs : List Gl) (k : Nat) (g : Gl) (h : gs[k]? = some g) : zc (gs.take (k + 1)) = zc (gs.take k) + (if tyOf g == 6 then 1 else 0) := by
  unfold zc
  rw [List.take_add_one, h]
  simp only [Option.toList, List.filter_append, List.length_append]
  cases hx : tyOf g == 6 <;> simp [hx]
theorem zc_le (gs : List Gl) : zc gs ≤ gs.length := List.length_filter_le _ _

/-- The range's own form in the package. -/
def FMat (A : Option Addr) (n c p q : Nat) : Value := .agg #[.string ⟨#[]⟩, .float .f64 0, .string ⟨#[]⟩, .slice none 0 0, .slice A n c, .bool false, .string ⟨#[]⟩, .int .u8 4, .pointer (some ⟨p, 0, none⟩), .pointer (some ⟨q, 0, none⟩)]
/-- A float64 that counts. -/
def FloatIs (n : Nat) (v : Value) : Prop := ∃ z, v = .float .f64 z ∧ Fl.Is z n
theorem List1.below {w w' : World} {LB E : Nat} {v : Value} (h : List1 w LB E v) (hb : Below w.heap.size w w') : List1 w' LB E v := by
  obtain ⟨hl, he, r0, r1, r4, e0, e2, e3⟩ := h
  obtain ⟨hc, _, hz⟩ := bcell hb
  exact ⟨by omega, by omega, (hc _ _ hl).trans r0, (hc _ _ hl).trans r1, (hc _ _ hl).trans r4, (hc _ _ he).trans e0, (hc _ _ he).trans e2, (hc _ _ he).trans e3⟩
def NumPost (P : Nat → Prop) (w : World) (e : Ending) (w' : World) : Prop := ∃ z, P z ∧ e = .returned (.agg #[.string ⟨#[]⟩, .float .f64 z, .string ⟨#[]⟩, .slice none 0 0, .slice none 0 0, .bool false, .string ⟨#[]⟩, .int .u8 1, .pointer none, .pointer none]) ∧ Below w.heap.size w w'

def Zero10 (w : World) (B : Nat) : Prop := Blk w B 67 zero10
theorem Zero10.new (w : World) : Zero10 (w.alloc (.cells #[.string ⟨#[]⟩, .float .f64 0, .string ⟨#[]⟩, .slice none 0 0, .slice none 0 0, .bool false, .string ⟨#[]⟩, .int .u8 0, .pointer none, .pointer none] 67)) w.heap.size := Blk.new w _ _
theorem Zero10.below {w w' : World} {B : Nat} (h : Zero10 w B) (hb : Below w.heap.size w w') : Zero10 w' B := Blk.below h hb (Blk.lt h)
theorem Zero10.facts {w : World} {B : Nat} (h : Zero10 w B) : B < w.heap.size ∧ w.cell? ⟨B, 0, none⟩ = some (.string ⟨#[]⟩) ∧ w.cell? ⟨B, 1, none⟩ = some (.float .f64 0) ∧ w.cell? ⟨B, 2, none⟩ = some (.string ⟨#[]⟩) ∧ w.cell? ⟨B, 3, none⟩ = some (.slice none 0 0) ∧ w.cell? ⟨B, 4, none⟩ = some (.slice none 0 0) ∧
    w.cell? ⟨B, 5, none⟩ = some (.bool false) ∧ w.cell? ⟨B, 6, none⟩ = some (.string ⟨#[]⟩) ∧ w.cell? ⟨B, 7, none⟩ = some (.int .u8 0) ∧ w.cell? ⟨B, 8, none⟩ = some (.pointer none) ∧ w.cell? ⟨B, 9, none⟩ = some (.pointer none) ∧ ∀ o, w.frozen? ⟨B, o, none⟩ = false :=
  ⟨Blk.lt h, Blk.cell h 0, Blk.cell h 1, Blk.cell h 2, Blk.cell h 3, Blk.cell h 4, Blk.cell h 5, Blk.cell h 6, Blk.cell h 7, Blk.cell h 8, Blk.cell h 9, fun o => Blk.free h o⟩
theorem below10 {W w : World} {b0 B : Nat} {a b c d f g h i j k : Value} (hb : Below b0 W w) (hB : b0 ≤ B) :
    Below b0 W ((((((((((w.setCell ⟨B, 0, none⟩ a).setCell ⟨B, 1, none⟩ b).setCell ⟨B, 2, none⟩ c).setCell ⟨B, 3, none⟩ d).setCell ⟨B, 4, none⟩ f).setCell ⟨B, 5, none⟩ g).setCell ⟨B, 6, none⟩ h).setCell ⟨B, 7, none⟩ i).setCell ⟨B, 8, none⟩ j).setCell ⟨B, 9, none⟩ k) :=
  (((((below5 hb hB).setCell (p := ⟨B, 5, none⟩) hB g).setCell (p := ⟨B, 6, none⟩) hB h).setCell (p := ⟨B, 7, none⟩) hB i).setCell (p := ⟨B, 8, none⟩) hB j).setCell (p := ⟨B, 9, none⟩) hB k

end Go.Proofs.YtdpkjhohklfieaaGreat
