/- Functions whose answer is a matrix: the frame of the reference, both doors, and that equal matrices are told equal. -/
import Derived.Test.YtdpkjhohklfieaaGreatAg
import Derived.Test.YtdpkjhohklfieaaGreatTp
set_option linter.unusedSimpArgs false
set_option linter.unusedVariables false
namespace Go.Proofs.YtdpkjhohklfieaaGreat
open Go.RowKit
set_option maxRecDepth 100000
set_option maxHeartbeats 1000000

/-- A value of the reference with rows that satisfies this. -/
def ManyP (Pm : Mv → Prop) (B : Nat) (v : Ve) (W : World) : Prop := ∃ y : Mv, Pm y ∧ VIs W (New B W) v y
theorem ManyP.lasts (Pm : Mv → Prop) : Lasts (ManyP Pm) := by
  rintro B B' v W W' ⟨y, hy, hv⟩ hB hU
  exact ⟨y, hy, KV.more (KV.keep hv fun k hk => hU.2 k hk.1 hk.2) fun k hk => ⟨Nat.le_trans hB hk.1, Nat.lt_of_lt_of_le hk.2 hU.1⟩⟩
def ManyPost (Pm : Mv → Prop) (w : World) (e : Ending) (w' : World) : Prop := ∃ (v : Ve) (y : Mv), Pm y ∧ e = .returned (.agg #[.int .i64 v.x.k, .int .i64 v.x.n, .int .i64 v.x.d, .string v.x.s, .slice v.A v.m v.c]) ∧ VIs w' (New w.heap.size w') v y ∧ Below w.heap.size w w'
theorem Made.many {Pm : Mv → Prop} {w : World} {e : Ending} {w' : World} (h : Made (ManyP Pm) w e w') : ManyPost Pm w e w' := by
  obtain ⟨v, rfl, ⟨y, hy, hv⟩, hb⟩ := h
  exact ⟨v, y, hy, rfl, hv, hb⟩

/-- What a function of the thin package leaves whose answer is a matrix. -/
def MatI (rows : List (List Gl)) (w : World) (e : Ending) (w' : World) : Prop :=
  ∃ g cap, e = .returned (.agg #[.int .i64 5, .float .f64 0, .string ⟨#[]⟩, .slice (some ⟨g, 0, none⟩) rows.length cap]) ∧ RowsIs 4 w' (New w.heap.size w') (some ⟨g, 0, none⟩) rows.length (rows.map drs) ∧ Below w.heap.size w w'
def drm (rows : List (List Gl)) : List (List Gl) := rows.map fun r => r.map Gl.dr
theorem drs_drm (rows : List (List Gl)) : (drm rows).map gls = rows.map drs := by
  unfold drm
  rw [List.map_map]; rfl
theorem drm_len (rows : List (List Gl)) : (drm rows).length = rows.length := by unfold drm; rw [List.length_map]
theorem MatI.gis {rows : List (List Gl)} {w : World} {e : Ending} {w' : World} (h : MatI rows w e w') : ∃ v : Vg, e = .returned (.agg #[.int .i64 v.g.k, .float .f64 v.g.x, .string v.g.s, .slice v.A v.m v.c]) ∧ GIs w' (New w.heap.size w') v ⟨⟨5, 0, ⟨#[]⟩⟩, drm rows⟩ ∧ Below w.heap.size w w' := by
  obtain ⟨g, cap, rfl, hr, hb⟩ := h
  refine ⟨⟨⟨5, 0, ⟨#[]⟩⟩, some ⟨g, 0, none⟩, rows.length, cap⟩, rfl, ⟨rfl, .inr ⟨rfl, ?_⟩⟩, hb⟩
  show RowsIs 4 w' _ _ _ ((drm rows).map gls)
  rw [drs_drm]; exact hr

theorem same_of (W : World) (v : Vg) (u : Ve) (Gr : List (List Gl)) (X : List (List Fv)) (hv : GIs W (· < W.heap.size) v ⟨⟨5, 0, ⟨#[]⟩⟩, Gr⟩) (hu : VIs W (· < W.heap.size) u (mat X)) (hl : X.length ≤ 1000) (hC : ∀ r ∈ X, r.length ≤ 1000 ∧ ∀ x ∈ r, x.Ok) (ha : AgrRows Gr X) :
    Calls Tryz.prog 12 #[(.agg #[.int .i64 v.g.k, .float .f64 v.g.x, .string v.g.s, .slice v.A v.m v.c]), (.agg #[.int .i64 u.x.k, .int .i64 u.x.n, .int .i64 u.x.d, .string u.x.s, .slice u.A u.m u.c])] W fun e w' => e = .returned (.bool true) ∧ Below W.heap.size W w' := by
  obtain ⟨vg, vA, vm, vc⟩ := v
  obtain ⟨ux, uA, um, uc⟩ := u
  obtain ⟨h1, ⟨h2, _⟩ | ⟨_, h3⟩⟩ := hv
  · exact absurd rfl h2
  · obtain ⟨k1, ⟨k2, _⟩ | ⟨_, k3⟩⟩ := hu
    · exact absurd rfl k2
    · simp only at h1 k1 h3 k3
      subst h1
      have k1' : ux = ⟨5, 0, 0, ⟨#[]⟩⟩ := k1
      subst k1'
      have h3' : RowsIs 4 W (· < W.heap.size) vA vm (Gr.map gls) := h3
      have k3' : RowsIs 5 W (· < W.heap.size) uA um (X.map fvs) := k3
      have hvm : vm ≤ 1000 := by
        rw [h3'.2.1, List.length_map, ha.1]; exact hl
      exact same_mat vA uA vm um vc uc Gr X W h3' k3' hvm hC ha

end Go.Proofs.YtdpkjhohklfieaaGreat
