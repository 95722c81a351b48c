/- TEXTJOIN plainly; a truth of the reference. -/
import Derived.Test.YtdpkjhohklfieaaGreatDoorUj
import Derived.Test.YtdpkjhohklfieaaGreatDoorUk
set_option linter.unusedSimpArgs false
set_option linter.unusedVariables false
namespace Go.Proofs.YtdpkjhohklfieaaGreatDoor
open Go.RowKit
set_option maxRecDepth 100000
set_option maxHeartbeats 1000000

theorem join_none (xs : List (List UInt8)) : Lib.join xs [] = xs.flatten := by
  cases xs with
  | nil => rfl
  | cons x r =>
    rw [Lib.join_cons, List.flatten_cons]
    unfold Lib.joinTail
    congr 1
    induction r with
    | nil => rfl
    | cons y r ih => rw [List.map_cons, List.flatten_cons, List.flatten_cons, ih]; rfl
theorem kept_flat : ∀ (L : List ByteArray), ((kept L).map (·.data.toList)).flatten = cat L
  | [] => rfl
  | x :: L => by
    have ih := kept_flat L
    unfold kept cat at ih ⊢
    rw [List.map_cons, List.flatten_cons, ← ih, List.filter_cons]
    by_cases h : x.size = 0
    · have hx : x.data.toList = [] := List.eq_nil_of_length_eq_zero (by rw [show x.data.toList.length = x.size from Array.length_toList]; exact h)
      rw [if_neg (by simp [h]), hx]
      rfl
    · rw [if_pos (by simp [h]), List.map_cons, List.flatten_cons]
/-- What is joined with nothing between is the texts one behind the other. -/
theorem join_kept (L : List ByteArray) : Lib.join ((kept L).map (·.data.toList)) [] = cat L := by rw [join_none, kept_flat]
theorem cat_ascii (L : List ByteArray) (h : ∀ x ∈ L, ∀ c ∈ x.data.toList, c.toNat < 128) : ∀ c ∈ cat L, c.toNat < 128 := by
  intro c hc
  unfold cat at hc
  obtain ⟨l, hl, hcl⟩ := List.mem_flatten.1 hc
  obtain ⟨x, hx, rfl⟩ := List.mem_map.1 hl
  exact h x hx c hcl

theorem bool_true (w : World) : Calls Tryz.prog 13 #[.bool true] w fun e w' => e = .returned (.agg #[.int .i64 3, .int .i64 1, .int .i64 0, .string ⟨#[]⟩, .slice none 0 0]) ∧ Below w.heap.size w w' := by
  go_enter Tryz.func13, Tryz.ntmps13
  go_wp2
  exact bodyPost_ret (v := (.agg #[.int .i64 3, .int .i64 1, .int .i64 0, .string ⟨#[]⟩, .slice none 0 0])) (by simp [results, Tryz.results13, go_sem]) rfl ⟨rfl, (by (repeat' (first | with_reducible exact Below.refl _ _ | with_reducible refine Below.setCell ?_ ?_ _ | with_reducible refine Below.alloc ?_ ?_ _ | with_reducible refine Below.drew ?_ | with_reducible refine Below.trans ?_ (Below.mono (by assumption) ?_))); all_goals (first | omega | (simp [World.setCell]; done) | (simp [World.setCell]; omega)))⟩

end Go.Proofs.YtdpkjhohklfieaaGreatDoor
