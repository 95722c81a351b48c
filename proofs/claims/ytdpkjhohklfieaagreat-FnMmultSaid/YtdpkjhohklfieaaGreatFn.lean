/- First of single values of which none is an error, and none unsure. -/
import Derived.Test.YtdpkjhohklfieaaGreatCk
set_option linter.unusedSimpArgs false
set_option linter.unusedVariables false
namespace Go.Proofs.YtdpkjhohklfieaaGreat
open Go.RowKit
set_option maxRecDepth 100000
set_option maxHeartbeats 1000000

theorem Src.more {w : World} {B B' : Nat} {A : Option Addr} {size : Nat} {cs : List (List Value)} (h : Src w B A size cs) (hB : B ≤ B') : Src w B' A size cs := by
  rcases h with h | ⟨b, off, h1, h2, h3⟩
  · exact .inl h
  · exact .inr ⟨b, off, h1, Nat.lt_of_lt_of_le h2 hB, h3⟩
def leafs (L : List Fv) : List (List Value × List Fv) := L.map fun x => (x.cells, [x])
theorem leafs_cells (L : List Fv) : (leafs L).map (·.1) = fvs L := by simp [leafs, fvs, List.map_map, Function.comp_def]
theorem leafs_leaves (L : List Fv) : leaves (leafs L) = L := by
  unfold leafs leaves
  induction L with
  | nil => rfl
  | cons x r ih => simp only [List.map_cons, List.flatten_cons]; rw [ih]; rfl

/-- First of single values of which none is an error, and none unsure: none. -/
theorem first_none (A : Option Addr) (cap : Nat) (L : List Fv) (w : World) (hsrc : Src w w.heap.size A 5 (fvs L)) (hlen : L.length ≤ 1000) (h : ∀ x ∈ L, x.k ≠ 4 ∧ x.k ≠ 5 ∧ x.k ≠ 6) :
    Calls Tryz.prog 194 #[.slice A L.length cap] w fun e w' => e = .returned (.tuple #[(.agg #[.int .i64 0, .int .i64 0, .int .i64 0, .string ⟨#[]⟩, .slice none 0 0]), .bool false]) ∧ Below w.heap.size w w' := by
  have z0 := Zero5.new w
  have hbA : Below w.heap.size w (w.alloc (.cells #[.int .i64 0, .int .i64 0, .int .i64 0, .string ⟨#[]⟩, .slice none 0 0] 27)) := (Below.refl _ _).alloc (Nat.le_refl _) _
  have hf := flat_any 1 w.heap.size A cap (leafs L) _ (by simpa [leafs] using hlen) (by rw [leafs_cells]; exact hsrc.below hbA (Nat.le_refl _)) hbA.size
    (by intro e he; obtain ⟨x, hx, rfl⟩ := List.mem_map.1 he; exact leads_leaf x (h x hx).2.1) (by rw [leafs_leaves]; omega)
  rw [leafs_leaves, show (leafs L).length = L.length by simp [leafs]] at hf
  obtain ⟨p, hp⟩ : ∃ p, p = L.length := ⟨_, rfl⟩
  rw [← hp] at hf hlen
  rw [← hp]
  have HF := Lib.hid hf
  have HP := Lib.hid hp
  have HH := Lib.hid h
  have ZB := Lib.hid (And.intro z0 hbA)
  clear hf hp h z0 hbA
  go_enter Tryz.func194, Tryz.ntmps194
  go_wp2_with fail
  refine HF.out.mono ?_
  rintro e w1 ⟨v, rfl, hown, hb1⟩
  obtain ⟨z0, hbA⟩ := ZB.out
  obtain ⟨q, q0, q1, q2, q3, q4, qf⟩ := z0.below hb1
  have hbw := hbA.trans (hb1.mono (by simp))
  obtain ⟨A', cap', rfl, hsrc'⟩ := hown.src
  rw [show (fvs L).length = p by rw [HP.out]; simp [fvs]]
  clear hown z0 hbA hb1 HF ZB hsrc
  rcases hsrc' with hnil | ⟨b, off, rfl, hlt, hrow⟩
  · have hx0 : L = [] := by simpa [fvs] using hnil
    subst hx0
    have hp0 : p = 0 := HP.out
    subst hp0
    go_wp2_with fail
    refine wp_loop_rounds 1 ?_
    rw [rounds_succ]
    go_wp2_with fail
    refine wp_loop_rounds 1 ?_
    rw [rounds_succ]
    go_wp2
    exact bodyPost_ret (v := (.tuple #[(.agg #[.int .i64 0, .int .i64 0, .int .i64 0, .string ⟨#[]⟩, .slice none 0 0]), .bool false])) (by simp [results, Tryz.results194, go_sem, q, q0, q1, q2, q3, q4, qf]) rfl ⟨rfl, (by (repeat' (first | with_reducible exact Below.refl _ _ | with_reducible refine Below.setCell ?_ ?_ _ | with_reducible refine Below.alloc ?_ ?_ _ | with_reducible refine Below.drew ?_ | with_reducible refine Below.trans ?_ (Below.mono (by assumption) ?_))); all_goals (first | omega | (simp [World.setCell]; done) | (simp [World.setCell]; omega)))⟩
  · go_wp2_with fail
    go_loop [4] (fun i => ∃ m : Nat, m ≤ p ∧ i = .int .i64 m) (fun i => p - (intOf i).toNat)
    case atStart => exact ⟨0, Nat.zero_le _, rfl⟩
    case round =>
      obtain ⟨m, hm, rfl⟩ := hrel
      by_cases hmp : m < p
      · have hml : m < L.length := by rw [← HP.out]; exact hmp
        obtain ⟨x, hx⟩ : ∃ x, L[m]? = some x := ⟨_, List.getElem?_eq_getElem hml⟩
        have hR := hrow m x.cells (by simp [fvs, hx])
        have c0 : w1.cell? ⟨b, off + m * 5, none⟩ = some (.int .i64 x.k) := hR.2 0 _ rfl
        have h6 : (x.k == 6) = false := by simpa using (HH.out x (List.mem_of_getElem? hx)).2.2
        have HR := Lib.hid hrow
        clear hx hrow hR
        go_wp2
        go_round
        case rel => exact ⟨m + 1, by omega, by go_num⟩
        case measure => simp [intOf]; omega
      · have hmq : m = p := by omega
        subst hmq
        go_wp2_with fail
        go_loop [5] (fun i => ∃ u : Nat, u ≤ m ∧ i = .int .i64 u) (fun i => m - (intOf i).toNat)
        case atStart => exact ⟨0, Nat.zero_le _, rfl⟩
        case round =>
          obtain ⟨u, hu, rfl⟩ := hrel
          by_cases hup : u < m
          · have hul : u < L.length := by rw [← HP.out]; exact hup
            obtain ⟨x, hx⟩ : ∃ x, L[u]? = some x := ⟨_, List.getElem?_eq_getElem hul⟩
            have hR := hrow u x.cells (by simp [fvs, hx])
            have c0 : w1.cell? ⟨b, off + u * 5, none⟩ = some (.int .i64 x.k) := hR.2 0 _ rfl
            have h4 : (x.k == 4) = false := by simpa using (HH.out x (List.mem_of_getElem? hx)).1
            have HR := Lib.hid hrow
            clear hx hrow hR
            go_wp2
            go_round
            case rel => exact ⟨u + 1, by omega, by go_num⟩
            case measure => simp [intOf]; omega
          · have huq : u = m := by omega
            subst huq
            go_wp2
            exact bodyPost_ret (v := (.tuple #[(.agg #[.int .i64 0, .int .i64 0, .int .i64 0, .string ⟨#[]⟩, .slice none 0 0]), .bool false])) (by simp [results, Tryz.results194, go_sem, q, q0, q1, q2, q3, q4, qf]) rfl ⟨rfl, (by (repeat' (first | with_reducible exact Below.refl _ _ | with_reducible refine Below.setCell ?_ ?_ _ | with_reducible refine Below.alloc ?_ ?_ _ | with_reducible refine Below.drew ?_ | with_reducible refine Below.trans ?_ (Below.mono (by assumption) ?_))); all_goals (first | omega | (simp [World.setCell]; done) | (simp [World.setCell]; omega)))⟩

end Go.Proofs.YtdpkjhohklfieaaGreat
