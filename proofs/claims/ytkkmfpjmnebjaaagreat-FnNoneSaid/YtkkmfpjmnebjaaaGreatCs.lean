/- shortTexts of one and of two texts. -/
import Derived.Test.YtkkmfpjmnebjaaaGreatCm
set_option linter.unusedSimpArgs false
set_option linter.unusedVariables false
namespace Go.Proofs.YtkkmfpjmnebjaaaGreat
open Go.RowKit
set_option maxRecDepth 100000
set_option maxHeartbeats 1000000

theorem short1_no (g : Nat) (s : ByteArray) (w : World) (h0 : w.cell? ⟨g, 0, none⟩ = some (.string s)) (hs : 1000 < s.size) :
    Calls Tryz.prog 15 #[.slice (some ⟨g, 0, none⟩) 1 1] w fun e w' => e = .returned (.bool false) ∧ w = w' := by
  go_enter Tryz.func15, Tryz.ntmps15
  go_wp2_with fail
  refine wp_loop_rounds 2 ?_
  rw [rounds_succ]
  go_wp2
  go_ret
  exact ⟨rfl, rfl⟩
theorem short1_yes (g : Nat) (s : ByteArray) (w : World) (h0 : w.cell? ⟨g, 0, none⟩ = some (.string s)) (hs : s.size ≤ 1000) :
    Calls Tryz.prog 15 #[.slice (some ⟨g, 0, none⟩) 1 1] w fun e w' => e = .returned (.bool true) ∧ w = w' := by
  have hs' : ¬ 1000 < s.size := by omega
  go_enter Tryz.func15, Tryz.ntmps15
  go_wp2_with fail
  refine wp_loop_rounds 2 ?_
  rw [rounds_succ]
  go_wp2_with fail
  rw [rounds_succ]
  go_wp2
  go_ret
  exact ⟨rfl, rfl⟩
theorem short2_no (g : Nat) (s t : ByteArray) (w : World) (h0 : w.cell? ⟨g, 0, none⟩ = some (.string s)) (h1 : w.cell? ⟨g, 1, none⟩ = some (.string t)) (hs : 1000 < s.size ∨ 1000 < t.size) :
    Calls Tryz.prog 15 #[.slice (some ⟨g, 0, none⟩) 2 2] w fun e w' => e = .returned (.bool false) ∧ w = w' := by
  by_cases h : 1000 < s.size
  · clear hs
    go_enter Tryz.func15, Tryz.ntmps15
    go_wp2_with fail
    refine wp_loop_rounds 3 ?_
    rw [rounds_succ]
    go_wp2
    go_ret
    exact ⟨rfl, rfl⟩
  · have ht : 1000 < t.size := by omega
    clear hs
    go_enter Tryz.func15, Tryz.ntmps15
    go_wp2_with fail
    refine wp_loop_rounds 3 ?_
    rw [rounds_succ]
    go_wp2_with fail
    rw [rounds_succ]
    go_wp2
    go_ret
    exact ⟨rfl, rfl⟩
theorem short2_yes (g : Nat) (s t : ByteArray) (w : World) (h0 : w.cell? ⟨g, 0, none⟩ = some (.string s)) (h1 : w.cell? ⟨g, 1, none⟩ = some (.string t)) (hs : s.size ≤ 1000) (ht : t.size ≤ 1000) :
    Calls Tryz.prog 15 #[.slice (some ⟨g, 0, none⟩) 2 2] w fun e w' => e = .returned (.bool true) ∧ w = w' := by
  have hs' : ¬ 1000 < s.size := by omega
  have ht' : ¬ 1000 < t.size := by omega
  go_enter Tryz.func15, Tryz.ntmps15
  go_wp2_with fail
  refine wp_loop_rounds 3 ?_
  rw [rounds_succ]
  go_wp2_with fail
  rw [rounds_succ]
  go_wp2_with fail
  rw [rounds_succ]
  go_wp2
  go_ret
  exact ⟨rfl, rfl⟩

end Go.Proofs.YtkkmfpjmnebjaaaGreat
