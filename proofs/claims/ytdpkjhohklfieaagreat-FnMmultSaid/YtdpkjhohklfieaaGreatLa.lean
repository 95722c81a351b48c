/- A table as the one argument of a function. -/
import Derived.Test.YtdpkjhohklfieaaGreatNm
set_option linter.unusedSimpArgs false
set_option linter.unusedVariables false
namespace Go.Proofs.YtdpkjhohklfieaaGreat
open Go.RowKit
set_option maxRecDepth 100000
set_option maxHeartbeats 1000000

def mat (rows : List (List Fv)) : Mv := ⟨⟨5, 0, 0, ⟨#[]⟩⟩, rows⟩
theorem flatM_mat (rows : List (List Fv)) : flatM (mat rows) = rows.flatten := by unfold flatM mat; rw [if_pos rfl]
theorem Rect.ok {rows : List (List Fv)} (h : Rect rows) : (mat rows).Ok := by
  obtain ⟨_, hl, C, h1, h6, hr⟩ := h
  refine ⟨fun hk => absurd rfl hk, by show rows.length ≤ 1000; omega, fun r hm => ⟨?_, fun x hx => ((hr r hm).2 x hx).1⟩⟩
  have := (hr r hm).1; omega
theorem flatten_le (rows : List (List Fv)) (C : Nat) (h : ∀ r ∈ rows, r.length ≤ C) : rows.flatten.length ≤ rows.length * C := by
  induction rows with
  | nil => simp
  | cons r rs ih =>
    rw [List.flatten_cons, List.length_append, List.length_cons, Nat.succ_mul]
    have h1 := h r (List.mem_cons_self ..)
    have h2 := ih fun r hr => h r (List.mem_cons_of_mem _ hr)
    omega
theorem Rect.total {rows : List (List Fv)} (h : Rect rows) : rows.flatten.length ≤ 1000 := by
  obtain ⟨_, hl, C, h1, h6, hr⟩ := h
  refine Nat.le_trans (flatten_le rows 6 fun r hm => ?_) ?_
  · have := (hr r hm).1; omega
  · exact Nat.le_trans (Nat.mul_le_mul_right 6 hl) (by decide)
theorem Rect.cells {rows : List (List Fv)} (h : Rect rows) : ∀ x ∈ rows.flatten, x.Cell := by
  obtain ⟨_, _, C, _, _, hr⟩ := h
  intro x hx
  obtain ⟨r, hrm, hxr⟩ := List.mem_flatten.1 hx
  exact (hr r hrm).2 x hxr

theorem range_args {w w1 : World} {A : Option Addr} {n : Nat} {rows : List (List Fv)} (c : Nat) (hr : RowsIs 5 w1 (New w.heap.size w1) A n (rows.map fvs)) (h : Rect rows) :
    ArgsIn (w1.alloc (.cells #[.int .i64 5, .int .i64 0, .int .i64 0, .string ⟨#[]⟩, .slice A n c] 27)) w1.heap.size 0 [⟨⟨5, 0, 0, ⟨#[]⟩⟩, A, n, c⟩] [mat rows] := by
  have hb : Below w1.heap.size w1 (w1.alloc (.cells #[.int .i64 5, .int .i64 0, .int .i64 0, .string ⟨#[]⟩, .slice A n c] 27)) := (Below.refl _ _).alloc (Nat.le_refl _) _
  refine ⟨by simp, row_one w1 27 #[.int .i64 5, .int .i64 0, .int .i64 0, .string ⟨#[]⟩, .slice A n c], Kind.all.one (K := KV) ⟨rfl, .inr ⟨rfl, ?_⟩⟩, by intro m hm; simp at hm; subst hm; exact h.ok⟩
  exact (hr.keep (Keep.below hb fun _ hq => hq.2)).more fun q hq => Nat.lt_of_lt_of_le hq.2 hb.size

/-- The one range, in the package's list. -/
theorem list_range {w : World} {LB : Nat} {g : Mg} (h : ListOut w LB [g]) (h5 : g.g = ⟨5, 0, ⟨#[]⟩⟩) : ∃ E A c P Q, List1 w LB E (.iface 67 (FMat A g.rows.length c P Q)) ∧ RowsIs 10 w (· < w.heap.size) A g.rows.length (g.rows.map inns) ∧ ListIs w (· < w.heap.size) P [] ∧ ListIs w (· < w.heap.size) Q [cellsOf (g.rows.headD []).length g.rows.length] := by
  obtain ⟨es, G, hl, hall⟩ := h
  match G, hall.1 with
  | [f], _ =>
    obtain ⟨hk, _⟩ | ⟨_, A, c, P, Q, hf, h1, h2, h3⟩ := hall.2 0 f g rfl rfl
    · rw [h5] at hk; exact absurd rfl hk
    · obtain ⟨E, hE⟩ := hl.one
      rw [hf] at hE
      exact ⟨E, A, c, P, Q, hE, h1, h2, h3⟩

/-- What an argument gives the law. -/
def ItemsIn (w : World) (A : Option Addr) (c : Nat) (X : List It) : Prop := Src w w.heap.size A 3 (X.map It.cells) ∧ X.length ≤ c ∧ c ≤ 9223372036854775807 ∧ ∀ x ∈ X, x.Ok

end Go.Proofs.YtdpkjhohklfieaaGreat
