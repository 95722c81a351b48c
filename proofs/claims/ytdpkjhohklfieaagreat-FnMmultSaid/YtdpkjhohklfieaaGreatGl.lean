/- Values with rows, as what doubtful asks: where their cells lead. -/
import Derived.Test.YtdpkjhohklfieaaGreatGk
import Derived.Test.YtdpkjhohklfieaaGreatFn
set_option linter.unusedSimpArgs false
set_option linter.unusedVariables false
namespace Go.Proofs.YtdpkjhohklfieaaGreat
open Go.RowKit
set_option maxRecDepth 100000

/-- The single values of a value. -/
def flatM (m : Mv) : List Fv := if m.x.k = 5 then m.rows.flatten else [m.x]
def flatAll (M : List Mv) : List Fv := (M.map flatM).flatten

theorem leafs_leads {d : Nat} {w : World} {B : Nat} (r : List Fv) (h : ∀ x ∈ r, x.k ≠ 5) : ∀ e ∈ r.map (fun x => (x.cells, [x])), Leads (d + 1) w B e.1 e.2 := by
  intro e he
  obtain ⟨x, hx, rfl⟩ := List.mem_map.1 he
  exact leads_leaf x (h x hx)

theorem leads_of (d : Nat) {w : World} {B : Nat} {v : Ve} {m : Mv} (h : VIs w (· < B) v m) (ho : m.Ok) : Leads (d + 2) w B v.cells (flatM m) := by
  obtain ⟨hx, ⟨hk, hr, hA, hm, hc⟩ | ⟨hk, hr⟩⟩ := h
  · refine .inl ⟨m.x, hk, ?_, ?_⟩
    · unfold Ve.cells; rw [hx, hA, hm, hc]; rfl
    · unfold flatM; rw [if_neg hk]
  · obtain ⟨hne, hm, b, off, hA, hb, hrow⟩ := hr
    have hm' : v.m = m.rows.length := by rw [hm]; simp [rowsV]
    refine .inr ⟨0, 0, ⟨#[]⟩, v.A, v.c, m.rows.mapIdx fun i r => ((w.cell? ⟨b, off + i, none⟩).getD .nilIface, r), ?_, ?_, ?_, ?_, ?_⟩
    · unfold Ve.cells; rw [hx, hk]; simp [hm']
    · simpa using ho.2.1
    · refine .inr ⟨b, off, hA, hb, ?_⟩
      intro i c hi
      simp only [List.getElem?_map, List.getElem?_mapIdx, Option.map_map] at hi
      obtain ⟨r, hr, rfl⟩ := Option.map_eq_some_iff.1 hi
      obtain ⟨u, hu, _⟩ := hrow i (fvs r) (by simp [rowsV, hr])
      refine ⟨rfl, fun j x hj => ?_⟩
      match j, hj with
      | 0, hj =>
        simp [hu] at hj
        subst hj
        simpa using hu
      | j + 1, hj => simp at hj
    · have h5 : m.x.k = 5 := by rw [hk]
      unfold flatM; rw [if_pos h5]
      congr 1
      apply List.ext_getElem?
      intro i
      simp only [List.getElem?_map, List.getElem?_mapIdx, Option.map_map]
      cases m.rows[i]? <;> rfl
    · intro e he
      obtain ⟨i, hi⟩ := List.getElem?_of_mem he
      simp only [List.getElem?_mapIdx] at hi
      obtain ⟨r, hr, rfl⟩ := Option.map_eq_some_iff.1 hi
      obtain ⟨u, hu, hne', b', off', c', rfl, hb', hrow'⟩ := hrow i (fvs r) (by simp [rowsV, hr])
      have hor := ho.2.2 r (List.mem_of_getElem? hr)
      refine ⟨some ⟨b', off', none⟩, c', r.map fun x => (x.cells, [x]), ?_, by simpa using hor.1, .inr ⟨b', off', rfl, hb', ?_⟩, ?_, leafs_leads r fun x hx => (hor.2 x hx).ne5⟩
      · simp [hu, fvs]
      · have : (r.map fun x => (x.cells, [x])).map (·.1) = fvs r := by simp [fvs, Function.comp_def]
        rw [this]; exact hrow'
      · exact (leafs_leaves r).symm

/-- The cells of arguments, and what they lead to. -/
theorem leads_all (d : Nat) {w : World} {B : Nat} {G : List Ve} {M : List Mv} (h : KV.all w (· < B) G M) (ho : ∀ m ∈ M, m.Ok) :
    ∃ els : List (List Value × List Fv), els.map (·.1) = G.map Ve.cells ∧ els.length = M.length ∧ leaves els = flatAll M ∧ ∀ e ∈ els, Leads (d + 2) w B e.1 e.2 := by
  obtain ⟨hl, h⟩ := h
  induction G generalizing M with
  | nil =>
    have : M = [] := by simpa using hl.symm
    subst this
    exact ⟨[], rfl, rfl, rfl, by simp⟩
  | cons g G ih =>
    cases M with
    | nil => simp at hl
    | cons m M =>
      obtain ⟨els, h1, h2, h3, h4⟩ := ih (M := M) (fun m hm => ho m (List.mem_cons_of_mem _ hm)) (by simpa using hl) (fun i a c ha hc => h (i + 1) a c (by simpa using ha) (by simpa using hc))
      refine ⟨(g.cells, flatM m) :: els, by simp [h1], by simp [h2], by unfold leaves flatAll at *; simp [h3], ?_⟩
      intro e he
      rcases List.mem_cons.1 he with rfl | he
      · exact leads_of d (h 0 g m rfl rfl) (ho m (List.mem_cons_self ..))
      · exact h4 e he

/-- A matrix of one row, the arguments. -/
theorem leads_table (w : World) (B g b off c cap : Nat) (els : List (List Value × List Fv)) (hg : w.cell? ⟨g, 0, none⟩ = some (.slice (some ⟨b, off, none⟩) els.length c)) (hgB : g < B) (hbB : b < B) (hrow : Row w b off 5 (els.map (·.1)))
    (hlen : els.length ≤ 1000) (d : Nat) (hk : ∀ e ∈ els, Leads d w B e.1 e.2) : Leads (d + 1) w B [.int .i64 5, .int .i64 0, .int .i64 0, .string ⟨#[]⟩, .slice (some ⟨g, 0, none⟩) 1 cap] (leaves els) := by
  refine .inr ⟨0, 0, ⟨#[]⟩, some ⟨g, 0, none⟩, cap, [(.slice (some ⟨b, off, none⟩) els.length c, leaves els)], rfl, by simp, .inr ⟨g, 0, rfl, hgB, ?_⟩, by simp, ?_⟩
  · intro i d hi
    match i, hi with
    | 0, hi =>
      simp at hi; subst hi
      refine ⟨rfl, fun j v hj => ?_⟩
      match j, hj with
      | 0, hj => simp at hj; subst hj; simpa using hg
      | j + 1, hj => simp at hj
    | i + 1, hi => simp at hi
  · intro r hr
    simp at hr; subst hr
    exact ⟨some ⟨b, off, none⟩, c, els, rfl, hlen, .inr ⟨b, off, rfl, hbB, hrow⟩, rfl, hk⟩

end Go.Proofs.YtdpkjhohklfieaaGreat
