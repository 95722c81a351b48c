/- every: over elements of which some may be matrices. -/
import Derived.Test.YtdpkjhohklfieaaGreatDoorZ
import Derived.Test.YtdpkjhohklfieaaGreatDoorU
set_option linter.unusedSimpArgs false
set_option linter.unusedVariables false
namespace Go.Proofs.YtdpkjhohklfieaaGreatDoor
open Go.RowKit
set_option maxRecDepth 100000

/-- An element of a slice of values of the reference: a single value, or one with rows. -/
structure Ve where
  x : Fv
  A : Option Addr
  m : Nat
  c : Nat
def Ve.cells (v : Ve) : List Value := [.int .i64 v.x.k, .int .i64 v.x.n, .int .i64 v.x.d, .string v.x.s, .slice v.A v.m v.c]
/-- A text has no rows and is no longer than the statements speak of. -/
def Ve.Tame (v : Ve) : Prop := v.x.k = 2 → v.x.s.size ≤ 2147483647 ∧ v.A = none ∧ v.m = 0 ∧ v.c = 0

/-- The elements of what a function is called with. -/
def Args (w : World) (A : Option Addr) (L : List Ve) : Prop :=
  (∀ v ∈ L, v.Tame) ∧ L.length ≤ 1000 ∧ ((A = none ∧ L = []) ∨ ∃ b off, A = some ⟨b, off, none⟩ ∧ b < w.heap.size ∧ Row w b off 5 (L.map Ve.cells))

theorem Args.below {w w' : World} {A : Option Addr} {L : List Ve} (h : Args w A L) (hb : Below w.heap.size w w') : Args w' A L := by
  obtain ⟨h1, h2, h3 | ⟨b, off, rfl, hlt, hr⟩⟩ := h
  · exact ⟨h1, h2, .inl h3⟩
  · exact ⟨h1, h2, .inr ⟨b, off, rfl, Nat.lt_of_lt_of_le hlt hb.size, hr.below hb hlt⟩⟩

end Go.Proofs.YtdpkjhohklfieaaGreatDoor
