/- doubtful: whether nothing is said of a value, or of one in it. -/
import Derived.Test.YtdpkjhohklfieaaGreatDoorR
set_option linter.unusedSimpArgs false
set_option linter.unusedVariables false
namespace Go.Proofs.YtdpkjhohklfieaaGreatDoor
open Go.RowKit
set_option maxRecDepth 100000

theorem Owns.src {w : World} {base : Nat} {e : TypeId} {size : Nat} {v : Value} {cs : List (List Value)} (h : Owns w base e size v cs) :
    ∃ A cap, v = .slice A cs.length cap ∧ Src w w.heap.size A size cs := by
  by_cases hn : cs = []
  · subst hn
    rcases h.1.2 with ⟨rfl, _⟩ | ⟨g, cap, cur, rfl, _⟩
    · exact ⟨none, 0, rfl, .inl rfl⟩
    · exact ⟨_, cap, rfl, .inl rfl⟩
  · obtain ⟨g, cap, rfl, _, hlt, _, _, hr⟩ := h.row hn
    exact ⟨_, cap, rfl, .inr ⟨g, 0, rfl, hlt, hr⟩⟩

/-- Whether a value of which nothing is said is among these. -/
def doubt (xs : List Fv) : Bool := xs.any fun x => x.k == 6

theorem doubt_take (xs : List Fv) (k : Nat) (x : Fv) (h : xs[k]? = some x) (h6 : x.k ≠ 6) (hd : doubt (xs.take k) = false) : doubt (xs.take (k + 1)) = false := by
  unfold doubt at *
  rw [List.take_add_one, h, List.any_append, hd]
  simpa using h6

theorem doubt_mem (xs : List Fv) (k : Nat) (x : Fv) (h : xs[k]? = some x) (h6 : x.k = 6) : doubt xs = true := by
  unfold doubt
  rw [List.any_eq_true]
  exact ⟨x, List.mem_of_getElem? h, by simp [h6]⟩

theorem row_one (w : World) (t : TypeId) (c : Array Value) : Row (w.alloc (.cells c t)) w.heap.size 0 c.size [c.toList] := by
  intro i d hi
  match i, hi with
  | 0, hi =>
    simp at hi; subst hi
    refine ⟨by simp, fun j v hj => ?_⟩
    rw [Nat.zero_mul, Nat.zero_add, (Blk.new w t c).cell j]
    simpa using hj
  | i + 1, hi => simp at hi

end Go.Proofs.YtdpkjhohklfieaaGreatDoor
