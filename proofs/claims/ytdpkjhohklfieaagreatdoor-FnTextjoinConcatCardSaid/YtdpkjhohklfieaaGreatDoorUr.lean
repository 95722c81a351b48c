/- In a region that draws its order, a call that only reads may be made first. -/
import Derived.Deep.RegionHeld3
set_option linter.unusedSimpArgs false
set_option linter.unusedVariables false
namespace Go.Proofs.YtdpkjhohklfieaaGreatDoor
open Go
set_option maxRecDepth 100000

section
variable {P : Program} {ops : Array Oper} {Q : Exit → Act → World → Prop} {md : Region.Mode} {S : World → Prop}

/-- In this state the operation is a call that, in every world of S, hands back v and leaves the world as it is. -/
def ReadsIf (P : Program) (ops : Array Oper) (S : World → Prop) (o : Oper) (v : Value) (a : Act) : Prop :=
  Region.wanted o (yielded ops a.tmps) = true ∧ ∃ f args, ∀ w, S w → (execOp a.eval o).run P w = .ok (.enter f args) w ∧ Calls P f args w fun e w' => e = .returned v ∧ w = w'

theorem ReadsIf.made {i : Nat} {o : Oper} {v : Value} {a : Act} {K : Act → World → Prop} {w : World} (hy : ReadsIf P ops S o v a) (hi : ops[i]? = some o) (hS : S w) (h : K (a.put o.dst v) w) : wpOp P ops Q i K a w := by
  obtain ⟨hw, f, args, hc⟩ := hy
  obtain ⟨hr, hcall⟩ := hc w hS
  unfold Go.wpOp
  simp only [hi, hw, if_true]
  refine .inl ?_
  unfold Oper.wp
  rw [hr, Oper.upon_enter]
  refine Calls.mono hcall ?_
  rintro e w' ⟨rfl, rfl⟩
  exact h

/-- What another operation does is the same whether the value of this one is laid already; what holds of the state and bears its steps holds behind it. -/
theorem wpOp_late {j : Nat} {oi oj : Oper} {v : Value} {T : Act → Prop} {K : Act → World → Prop} {a : Act} {w : World} (hj : ops[j]? = some oj) (hap : oi.apart ops oj = true) (hsj : ∀ cs b, oj.op ≠ .select cs b)
    (hQ : ∀ c a w, Q (.panic c) (a.put oi.dst v) w → Q (.panic c) a w) (hT : ∀ a u, T a → T (a.put oj.dst u)) (hD : ∀ (a : Act) d, T a → T { a with defers := d :: a.defers })
    (ha : T a) (h : wpOp P ops Q j K (a.put oi.dst v) w) : wpOp P ops Q j (fun a' w' => T a' ∧ K (a'.put oi.dst v) w') a w := by
  obtain ⟨h1, h2, _⟩ := Oper.apart_spec hap
  have swap : ∀ (b : Act) (u : Value) (W : World), K ((b.put oi.dst v).put oj.dst u) W → K ((b.put oj.dst u).put oi.dst v) W := fun b u W hk => by rw [← Act.put_comm b v u h2]; exact hk
  have he := execOp_put oj hsj a oi.dst v h1
  unfold Go.wpOp at h ⊢
  simp only [hj] at h ⊢
  rw [wanted_put oj a oi.dst v h1] at h
  by_cases hw : Region.wanted oj (yielded ops a.tmps) = true
  · rw [if_pos hw] at h ⊢
    rcases h with h | ⟨has, hl⟩
    · refine .inl ?_
      unfold Oper.wp at h ⊢
      rw [he] at h
      cases hr : (execOp a.eval oj).run P w with
      | halt x w' =>
        rw [hr] at h
        cases x <;> simp only [Oper.upon] at h ⊢
        exact hQ _ _ _ h
      | ok n w' =>
        rw [hr] at h
        cases n <;> simp only [Oper.upon] at h ⊢
        case value u => exact ⟨hT _ _ ha, swap _ _ _ h⟩
        case skip => exact ⟨hT _ _ ha, swap _ _ _ h⟩
        case defer d => exact ⟨hT _ _ (hD _ d ha), swap _ _ _ (by rw [← Act.put_defers]; exact h)⟩
        case enter f args =>
          refine Calls.mono h fun e w'' hk => ?_
          cases e with
          | returned u => exact ⟨hT _ _ ha, swap _ _ _ hk⟩
          | panicked c => exact hQ _ _ _ hk
          | outgrown => exact hk
        case row row args => exact Rows.mono h fun u w'' hk => ⟨hT _ _ ha, swap _ _ _ hk⟩
    · exact .inr ⟨by unfold Oper.asks at has ⊢; rw [he] at has; exact has, hl⟩
  · rw [if_neg hw] at h ⊢
    exact ⟨hT _ _ ha, swap _ _ _ h⟩

theorem reads_first {i : Nat} {oi : Oper} {v : Value} (hi : ops[i]? = some oi) (hsel : ∀ (j : Nat) (o : Oper) cs b, ops[j]? = some o → o.op ≠ .select cs b)
    (hQ : ∀ c a w, Q (.panic c) (a.put oi.dst v) w → Q (.panic c) a w) :
    ∀ (fuel : Nat) (listed : Array Bool) (a : Act) (w : World),
      (∀ j oj, ops[j]? = some oj → j ≠ i → listed.getD j true = false → (∀ e ∈ oj.after, Region.binds md e = true → e.on ≠ i) → oi.apart ops oj = true) →
      i ∈ Region.ready md ops listed → ReadsIf P ops S oi v a → S w →
      wpAnyH P md ops Q S fuel (listed.setIfInBounds i true) (a.put oi.dst v) w → wpAnyH P md ops Q S (fuel + 1) listed a w
  | fuel, listed, a, w, hap, hr, hy, hS, H => by
    refine ⟨fun h0 => absurd hr (by rw [h0]; exact List.not_mem_nil), fun j hj => ?_⟩
    by_cases hji : j = i
    · subst hji
      exact hy.made hi hS ⟨hS, H⟩
    · match fuel, H with
      | 0, H =>
        have hj2 := ready_mono hj hji
        rw [H.1] at hj2
        exact absurd hj2 List.not_mem_nil
      | fuel + 1, H =>
        have hij : i ≠ j := fun h => hji h.symm
        obtain ⟨hun, oj, hoj, hwait⟩ := mem_ready.1 hj
        have hno : ∀ e ∈ oj.after, Region.binds md e = true → e.on ≠ i := fun e he hb heq => by
          have hy1 := hwait e he hb
          have hy0 := (mem_ready.1 hr).1
          rw [heq] at hy1
          by_cases hlt : i < listed.size
          · rw [Array.getD_eq_getD_getElem?, Array.getElem?_eq_getElem hlt] at hy0 hy1
            exact absurd (hy0.symm.trans hy1) (by decide)
          · rw [Array.getD_eq_getD_getElem?, Array.getElem?_eq_none (by omega)] at hy0
            exact absurd hy0 (by decide)
        have hpt := hap j oj hoj hji hun hno
        obtain ⟨h1, h2, h3⟩ := Oper.apart_spec hpt
        have hput : ∀ (b : Act) (u : Value), ReadsIf P ops S oi v b → ReadsIf P ops S oi v (b.put oj.dst u) := fun b u hb => by
          unfold ReadsIf at hb ⊢
          rw [wanted_put oi b oj.dst u h3, execOp_put oi (fun cs b => hsel i oi cs b hi) b oj.dst u h3]
          exact hb
        have hstep := wpOp_late (T := ReadsIf P ops S oi v) hoj hpt (fun cs b => hsel j oj cs b hoj) hQ hput (fun b d hb => hb) hy (H.2 j (ready_mono hj hji))
        refine wpOp_mono (fun a' w' hk => ⟨hk.2.1, reads_first hi hsel hQ fuel (listed.setIfInBounds j true) a' w' (fun k ok hok hki hku hkn => ?_) (ready_mono hr hij) hk.1 hk.2.1 ?_⟩) hstep
        · refine hap k ok hok hki ?_ hkn
          by_cases hjk : j = k
          · subst hjk; exact hun
          · rw [getD_set_ne true hjk] at hku; exact hku
        · rw [Array.setIfInBounds_comm _ _ hji]
          exact hk.2.2

/-- The move of a walk. -/
theorem takeReads {l : List Oper} {i : Nat} {oi : Oper} {v : Value} {fuel : Nat} {listed : Array Bool} {a : Act} {w : World} (hi : l[i]? = some oi)
    (hs : Region.noSelect l.toArray = true) (hf : Region.free md l.toArray listed i = true) (hr : (Region.ready md l.toArray listed).contains i = true)
    (hQ : ∀ c a w, Q (.panic c) (a.put oi.dst v) w → Q (.panic c) a w) (hy : ReadsIf P l.toArray S oi v a) (hS : S w)
    (h : wpAnyH P md l.toArray Q S fuel (listed.setIfInBounds i true) (a.put oi.dst v) w) : wpAnyH P md l.toArray Q S (fuel + 1) listed a w := by
  have hi2 : l.toArray[i]? = some oi := by rw [List.getElem?_toArray]; exact hi
  exact reads_first hi2 (Region.noSelect_spec hs) hQ fuel listed a w (Region.free_spec hi2 hf) (by simpa using hr) hy hS h
end

end Go.Proofs.YtdpkjhohklfieaaGreatDoor
