/- agrees: a function of the program says of single values what the reference says. -/
import Derived.Test.YtdpkjhohklfieaaGreatDoorS
import Derived.Deep.RegionHeld3
set_option linter.unusedSimpArgs false
set_option linter.unusedVariables false
namespace Go.Proofs.YtdpkjhohklfieaaGreatDoor
open Go.RowKit
set_option maxRecDepth 100000

theorem Fv.Ok.ne5 {x : Fv} (h : x.Ok) : x.k ≠ 5 := by
  rcases h with (h | h | h | h) | ⟨h, _⟩ | ⟨h, _⟩ <;> rw [h] <;> decide

theorem leads_leaf {d : Nat} {w : World} {B : Nat} (x : Fv) (h : x.k ≠ 5) : Leads (d + 1) w B x.cells [x] := .inl ⟨x, h, rfl, rfl⟩

/-- A matrix of one row, the row a slice of single values. -/
theorem leads_args (w : World) (B g b off c cap : Nat) (L : List Fv) (hg : w.cell? ⟨g, 0, none⟩ = some (.slice (some ⟨b, off, none⟩) L.length c)) (hgB : g < B) (hbB : b < B) (hrow : Row w b off 5 (fvs L))
    (hlen : L.length ≤ 1000) (hk : ∀ x ∈ L, x.k ≠ 5) : Leads 2 w B [.int .i64 5, .int .i64 0, .int .i64 0, .string ⟨#[]⟩, .slice (some ⟨g, 0, none⟩) 1 cap] L := by
  refine .inr ⟨0, 0, ⟨#[]⟩, some ⟨g, 0, none⟩, cap, [(.slice (some ⟨b, off, none⟩) L.length c, L)], rfl, by simp, .inr ⟨g, 0, rfl, hgB, ?_⟩, by simp, ?_⟩
  · intro i d hi
    match i, hi with
    | 0, hi =>
      simp at hi; subst hi
      refine ⟨rfl, fun j v hj => ?_⟩
      match j, hj with
      | 0, hj => simp at hj; subst hj; simpa using hg
      | j + 1, hj => simp at hj
    | i + 1, hi => simp at hi
  · intro r hr
    simp at hr; subst hr
    refine ⟨some ⟨b, off, none⟩, c, L.map fun x => (x.cells, [x]), by simp, by simpa using hlen, .inr ⟨b, off, rfl, hbB, ?_⟩, ?_, ?_⟩
    · rw [List.map_map]; exact hrow
    · rw [List.map_map]
      show L = (L.map fun x => [x]).flatten
      clear hk hlen hrow hg
      induction L with
      | nil => rfl
      | cons x r ih => simp only [List.map_cons, List.flatten_cons]; rw [← ih]; rfl
    · intro e he
      obtain ⟨x, hx, rfl⟩ := List.mem_map.1 he
      exact leads_leaf x (hk x hx)

end Go.Proofs.YtdpkjhohklfieaaGreatDoor
