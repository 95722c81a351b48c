/- Walking along a list (container/list). -/
import Derived.Test.YtdpkjhohklfieaaGreatDoorUa
import Derived.Test.YtdpkjhohklfieaaGreatDoorSk
import Derived.Deep.LoopGhost
import Derived.Lib.Builder
import Derived.Lib.BufferWrite
set_option linter.unusedSimpArgs false
set_option linter.unusedVariables false
namespace Go.Proofs.YtdpkjhohklfieaaGreatDoor
open Go.RowKit
set_option maxRecDepth 100000
set_option maxHeartbeats 1000000

/-- The pointer to element i, or nil behind the last one. -/
def elemPtr (es : List Nat) (i : Nat) : Value := match es[i]? with | some b => .pointer (some ⟨b, 0, none⟩) | none => .pointer none
theorem elemPtr_some {es : List Nat} {i b : Nat} (h : es[i]? = some b) : elemPtr es i = .pointer (some ⟨b, 0, none⟩) := by unfold elemPtr; rw [h]
theorem elemPtr_none {es : List Nat} {i : Nat} (h : es.length ≤ i) : elemPtr es i = .pointer none := by unfold elemPtr; rw [List.getElem?_eq_none h]

theorem neq_ptr_other {P : Program} (w : World) {tp te : TypeId} {j : TypeInfo} {a b : Addr} {ca cb : Array Value} {ta tb : TypeId} (hp : P.underlying tp = some (.pointer te)) (hte : P.info? te = some j) (hsz : j.size ≠ 0)
    (hne : a ≠ b) (ha : w.heap[a.block]? = some (.cells ca ta (0, 0))) (hb : w.heap[b.block]? = some (.cells cb tb (0, 0))) :
    (binOp .neq tp (.pointer (some a)) (.pointer (some b))).run P w = .ok (.bool true) w := by
  have h : ∀ d : Nat, (Op.equalIn (d + 1) tp (.pointer (some a)) (.pointer (some b))).run P w = .ok false w := fun d => by
    simp [Op.equalIn, run_underlying hp, sizeOf, typeInfo, hte, hsz, run_sameAddr_other w hne ha hb]
  simp only [binOp]
  simp [Op.equal, Op.maxDepth, h 9999]
theorem infoE : (Tryz.prog.info? 75).map (fun j => j.size) = some 4 := by kernel_rfl
theorem infoE' : ∃ j, Tryz.prog.info? 75 = some j ∧ j.size ≠ 0 := by
  have h := infoE
  cases hh : Tryz.prog.info? 75 with
  | none => rw [hh] at h; cases h
  | some j => rw [hh] at h; injection h with h; exact ⟨j, rfl, by have h' : j.size = 4 := h; rw [h']; decide⟩

theorem next_any (LB : Nat) (es : List Nat) (vs : List Value) (i b : Nat) (w : World) (h : IsList w LB es vs) (hi : es[i]? = some b) :
    Calls Tryz.prog 44 #[.pointer (some ⟨b, 0, none⟩)] w fun e w' => e = .returned (elemPtr es (i + 1)) ∧ w = w' := by
  obtain ⟨v, hv⟩ := h.val i b hi
  obtain ⟨q, hq⟩ := h.node i b v hi hv
  have e2 : w.cell? ⟨b, 2, none⟩ = some (.pointer (some ⟨LB, 0, none⟩)) := hq.cell 2
  by_cases hlt : i + 1 < es.length
  · obtain ⟨b', hb'⟩ : ∃ b', es[i + 1]? = some b' := ⟨_, List.getElem?_eq_getElem hlt⟩
    have e0 : w.cell? ⟨b, 0, none⟩ = some (.pointer (some ⟨b', 0, none⟩)) := by
      rw [hq.cell 0, List.getD_eq_getElem?_getD, hb']; rfl
    have hne : b' ≠ LB := (h.ne b' (List.mem_of_getElem? hb')).symm
    obtain ⟨v', hv'⟩ := h.val _ b' hb'
    obtain ⟨q', hq'⟩ := h.node _ b' v' hb' hv'
    obtain ⟨j, hj, hj0⟩ := infoE'
    have qO := neq_ptr_other (P := Tryz.prog) w (a := ⟨b', 0, none⟩) (b := ⟨LB, 0, none⟩) Tryz.underlying73 hj hj0 (by intro hh; injection hh with hh; exact hne hh) hq' h.root
    rw [elemPtr_some hb']
    clear hq hb' hi hv h hq' hv'
    go_enter Tryz.func44, Tryz.ntmps44
    go_wp2
    go_ret
    exact ⟨rfl, rfl⟩
  · have e0 : w.cell? ⟨b, 0, none⟩ = some (.pointer (some ⟨LB, 0, none⟩)) := by
      rw [hq.cell 0, List.getD_eq_getElem?_getD, List.getElem?_eq_none (by omega)]; rfl
    rw [elemPtr_none (by omega)]
    obtain ⟨j, hj, hj0⟩ := infoE'
    have qO := Lib.run_neq_ptr_same (P := Tryz.prog) w (⟨LB, 0, none⟩ : Addr) Tryz.underlying73 hj
    clear hq hi hv h
    go_enter Tryz.func44, Tryz.ntmps44
    go_wp2
    go_ret
    exact ⟨rfl, rfl⟩

theorem front_list (LB : Nat) (es : List Nat) (vs : List Value) (w : World) (h : IsList w LB es vs) (hn : es ≠ []) :
    Calls Tryz.prog 38 #[.pointer (some ⟨LB, 0, none⟩)] w fun e w' => e = .returned (elemPtr es 0) ∧ w = w' := by
  obtain ⟨b, r, rfl⟩ := List.exists_cons_of_ne_nil hn
  exact front_any LB b _ w (by rw [h.root.cell]; rfl) (h.root.cell 4) (by simp; omega)

end Go.Proofs.YtdpkjhohklfieaaGreatDoor
