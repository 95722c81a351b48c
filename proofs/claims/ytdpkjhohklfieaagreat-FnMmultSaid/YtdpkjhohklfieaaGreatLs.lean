/- Walking along a list (container/list); COUNTA in the package; a range with single cells besides. -/
import Derived.Test.YtdpkjhohklfieaaGreatLa
import Derived.Deep.LoopGhost
import Derived.Lib.Builder
set_option linter.unusedSimpArgs false
set_option linter.unusedVariables false
namespace Go.Proofs.YtdpkjhohklfieaaGreat
open Go.RowKit
set_option maxRecDepth 100000
set_option maxHeartbeats 1000000

/-- The pointer to element i, or nil behind the last one. -/
def elemPtr (es : List Nat) (i : Nat) : Value := match es[i]? with | some b => .pointer (some ⟨b, 0, none⟩) | none => .pointer none
theorem elemPtr_some {es : List Nat} {i b : Nat} (h : es[i]? = some b) : elemPtr es i = .pointer (some ⟨b, 0, none⟩) := by unfold elemPtr; rw [h]
theorem elemPtr_none {es : List Nat} {i : Nat} (h : es.length ≤ i) : elemPtr es i = .pointer none := by unfold elemPtr; rw [List.getElem?_eq_none h]

theorem neq_ptr_other {P : Program} (w : World) {tp te : TypeId} {j : TypeInfo} {a b : Addr} {ca cb : Array Value} {ta tb : TypeId} (hp : P.underlying tp = some (.pointer te)) (hte : P.info? te = some j) (hsz : j.size ≠ 0)
    (hne : a ≠ b) (ha : w.heap[a.block]? = some (.cells ca ta (0, 0))) (hb : w.heap[b.block]? = some (.cells cb tb (0, 0))) :
    (binOp .neq tp (.pointer (some a)) (.pointer (some b))).run P w = .ok (.bool true) w := by
  have h : ∀ d : Nat, (Op.equalIn (d + 1) tp (.pointer (some a)) (.pointer (some b))).run P w = .ok false w := fun d => by
    simp [Op.equalIn, run_underlying hp, sizeOf, typeInfo, hte, hsz, run_sameAddr_other w hne ha hb]
  simp only [binOp]
  simp [Op.equal, Op.maxDepth, h 9999]
theorem infoE : (Tryz.prog.info? 89).map (fun j => j.size) = some 4 := by kernel_rfl
theorem infoE' : ∃ j, Tryz.prog.info? 89 = some j ∧ j.size ≠ 0 := by
  have h := infoE
  cases hh : Tryz.prog.info? 89 with
  | none => rw [hh] at h; cases h
  | some j => rw [hh] at h; injection h with h; exact ⟨j, rfl, by have h' : j.size = 4 := h; rw [h']; decide⟩

theorem next_any (LB : Nat) (es : List Nat) (vs : List Value) (i b : Nat) (w : World) (h : IsList w LB es vs) (hi : es[i]? = some b) :
    Calls Tryz.prog 133 #[.pointer (some ⟨b, 0, none⟩)] w fun e w' => e = .returned (elemPtr es (i + 1)) ∧ w = w' := by
  obtain ⟨v, hv⟩ := h.val i b hi
  obtain ⟨q, hq⟩ := h.node i b v hi hv
  have e2 : w.cell? ⟨b, 2, none⟩ = some (.pointer (some ⟨LB, 0, none⟩)) := hq.cell 2
  by_cases hlt : i + 1 < es.length
  · obtain ⟨b', hb'⟩ : ∃ b', es[i + 1]? = some b' := ⟨_, List.getElem?_eq_getElem hlt⟩
    have e0 : w.cell? ⟨b, 0, none⟩ = some (.pointer (some ⟨b', 0, none⟩)) := by
      rw [hq.cell 0, List.getD_eq_getElem?_getD, hb']; rfl
    have hne : b' ≠ LB := (h.ne b' (List.mem_of_getElem? hb')).symm
    obtain ⟨v', hv'⟩ := h.val _ b' hb'
    obtain ⟨q', hq'⟩ := h.node _ b' v' hb' hv'
    obtain ⟨j, hj, hj0⟩ := infoE'
    have qO := neq_ptr_other (P := Tryz.prog) w (a := ⟨b', 0, none⟩) (b := ⟨LB, 0, none⟩) Tryz.underlying87 hj hj0 (by intro hh; injection hh with hh; exact hne hh) hq' h.root
    rw [elemPtr_some hb']
    clear hq hb' hi hv h hq' hv'
    go_enter Tryz.func133, Tryz.ntmps133
    go_wp2
    go_ret
    exact ⟨rfl, rfl⟩
  · have e0 : w.cell? ⟨b, 0, none⟩ = some (.pointer (some ⟨LB, 0, none⟩)) := by
      rw [hq.cell 0, List.getD_eq_getElem?_getD, List.getElem?_eq_none (by omega)]; rfl
    rw [elemPtr_none (by omega)]
    obtain ⟨j, hj, hj0⟩ := infoE'
    have qO := Lib.run_neq_ptr_same (P := Tryz.prog) w (⟨LB, 0, none⟩ : Addr) Tryz.underlying87 hj
    clear hq hi hv h
    go_enter Tryz.func133, Tryz.ntmps133
    go_wp2
    go_ret
    exact ⟨rfl, rfl⟩

theorem front_list (LB : Nat) (es : List Nat) (vs : List Value) (w : World) (h : IsList w LB es vs) (hn : es ≠ []) :
    Calls Tryz.prog 49 #[.pointer (some ⟨LB, 0, none⟩)] w fun e w' => e = .returned (elemPtr es 0) ∧ w = w' := by
  obtain ⟨b, r, rfl⟩ := List.exists_cons_of_ne_nil hn
  exact front_any LB b _ w (by rw [h.root.cell]; rfl) (h.root.cell 4) (by simp; omega)

/-- How many are counted of an argument. -/
def cT (g : Gl) : Bool := tyOf g == 2 || tyOf g == 1
def cA (m : Mg) : Nat := if m.g.k = 5 then (m.rows.flatten.filter cT).length else if cT m.g then 1 else 0
def cS (M : List Mg) : Nat := (M.map cA).sum
theorem cS_snoc (M : List Mg) (k : Nat) (m : Mg) (h : M[k]? = some m) : cS (M.take (k + 1)) = cS (M.take k) + cA m := by
  unfold cS
  rw [List.take_add_one, h]
  simp
def cR (gs : List Gl) : Nat := (gs.filter cT).length
theorem cR_snoc (gs : List Gl) (k : Nat) (g : Gl) (h : gs[k]? = some g) : cR (gs.take (k + 1)) = cR (gs.take k) + (if cT g then 1 else 0) := by
  unfold cR
  rw [List.take_add_one, h]
  simp only [Option.toList, List.filter_append, List.length_append]
  cases hx : cT g <;> simp [hx]
theorem cR_le (gs : List Gl) : cR gs ≤ gs.length := List.length_filter_le _ _

def CsAt (M : List Mg) (k : Nat) (v : Value) : Prop := ∃ C : Nat, v = .int .i64 C ∧ C = cS (M.take k) ∧ C ≤ 1000 * k
def CrAt (C : Nat) (gs : List Gl) (q : Nat) (v : Value) : Prop := ∃ D : Nat, v = .int .i64 D ∧ D = C + cR (gs.take q) ∧ D ≤ C + q

end Go.Proofs.YtdpkjhohklfieaaGreat
