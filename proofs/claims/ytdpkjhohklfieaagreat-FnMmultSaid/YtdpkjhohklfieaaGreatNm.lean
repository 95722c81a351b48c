/- Functions whose answer is a number: what they share. -/
import Derived.Test.YtdpkjhohklfieaaGreatPb2
set_option linter.unusedSimpArgs false
set_option linter.unusedVariables false
namespace Go.Proofs.YtdpkjhohklfieaaGreat
open Go.RowKit
set_option maxRecDepth 100000
set_option maxHeartbeats 1000000

theorem args_of {w : World} {b off : Nat} {G : List Ve} {M : List Mv} (h : ArgsIn w b off G M) (ht : ∀ m ∈ M, m.x.k = 2 → m.x.s.size ≤ 2147483647) (hl : M.length ≤ 1000) : Args w (some ⟨b, off, none⟩) G := by
  obtain ⟨hb, hr, hall, hok⟩ := h
  refine ⟨?_, by rw [hall.1]; exact hl, .inr ⟨b, off, rfl, hb, hr⟩⟩
  intro v hv h2
  obtain ⟨i, hi⟩ := List.getElem?_of_mem hv
  obtain ⟨m, hm⟩ : ∃ m, M[i]? = some m := ⟨_, List.getElem?_eq_getElem (by rw [← hall.1]; exact (List.getElem?_eq_some_iff.1 hi).1)⟩
  obtain ⟨hx, ⟨_, _, h3, h4, h5⟩ | ⟨h3, _⟩⟩ := hall.2 i v m hi hm
  · exact ⟨by have := ht m (List.mem_of_getElem? hm) (by rw [← hx]; exact h2); rw [hx]; exact this, h3, h4, h5⟩
  · rw [hx, h3] at h2; simp at h2

theorem of_mem_ok {M : List Mv} (h : ∀ m ∈ M, m.Ok) (hrn : ∀ m ∈ M, m.x.k ≠ 5 → m.rows = []) (hd : doubt (flatAll M) = false) : ∀ g ∈ M.map Mv.of, g.Ok := by
  intro g hg
  obtain ⟨m, hm, rfl⟩ := List.mem_map.1 hg
  have ho := h m hm
  have h6 : ∀ x ∈ flatM m, x.k ≠ 6 := by
    intro x hx h6
    have : doubt (flatAll M) = true := by
      unfold doubt
      rw [List.any_eq_true]
      exact ⟨x, List.mem_flatten.2 ⟨flatM m, List.mem_map.2 ⟨m, hm, rfl⟩, hx⟩, by simp [h6]⟩
    rw [hd] at this; cases this
  refine ⟨fun hk => ?_, by simpa [Mv.of] using ho.2.1, ?_⟩
  · refine Fv.of_ok m.x (ho.1 hk) (h6 m.x ?_)
    unfold flatM
    rw [if_neg (by exact hk)]
    exact List.mem_cons_self ..
  · intro r hr
    simp only [Mv.of] at hr
    obtain ⟨r0, hr0, rfl⟩ := List.mem_map.1 hr
    refine ⟨by simpa using (ho.2.2 r0 hr0).1, ?_⟩
    intro x hx
    obtain ⟨x0, hx0, rfl⟩ := List.mem_map.1 hx
    by_cases h5 : m.x.k = 5
    · exact Fv.of_ok x0 ((ho.2.2 r0 hr0).2 x0 hx0) (h6 x0 (by unfold flatM; rw [if_pos h5]; exact List.mem_flatten.2 ⟨r0, hr0, hx0⟩))
    · rw [hrn m hm h5] at hr0; simp at hr0

theorem rows_none {w : World} {S : Nat → Prop} {G : List Ve} {M : List Mv} (h : KV.all w S G M) : ∀ m ∈ M, m.x.k ≠ 5 → m.rows = [] := by
  intro m hm h5
  obtain ⟨i, hi⟩ := List.getElem?_of_mem hm
  obtain ⟨v, hv⟩ : ∃ v, G[i]? = some v := ⟨_, List.getElem?_eq_getElem (by rw [h.1]; exact (List.getElem?_eq_some_iff.1 hi).1)⟩
  obtain ⟨_, ⟨_, h2, _⟩ | ⟨h2, _⟩⟩ := h.2 i v m hv hi
  · exact h2
  · rw [h2] at h5; exact absurd rfl h5

def IntPost (P : Nat → Prop) (w : World) (e : Ending) (w' : World) : Prop := ∃ z, P z ∧ e = .returned (.agg #[.int .i64 1, .float .f64 z, .string ⟨#[]⟩, .slice none 0 0]) ∧ Below w.heap.size w w'

/-- A function whose answer is a number agrees with the reference. -/
theorem num_agrees (fn : Nat) (nm : ByteArray) (b off n c : Nat) (G : List Ve) (M : List Mv) (Pf : Fv → Prop) (P : Nat → Prop) (w : World)
    (hcf : ∀ (args : Array Value) (W : World), Sem.run Tryz.prog (callFunc fn args) W = .ok (.enter fn args) W)
    (hn : n = M.length) (hargs : ArgsIn w b off G M) (hlen : n ≤ 1000) (h0 : M ≠ []) (htot : (flatAll M).length ≤ 100000) (hwant : ∀ y, Pf y → y.Ok)
    (hcall : ∀ W, Below w.heap.size w W → Calls Tryz.prog 14 #[.string nm, .slice (some ⟨b, off, none⟩) n c] W fun e w' => ∃ y, Pf y ∧ e = .returned (.agg #[.int .i64 y.k, .int .i64 y.n, .int .i64 y.d, .string y.s, .slice none 0 0]) ∧ Below W.heap.size W w')
    (hfn : doubt (flatAll M) = false → ∀ W g cap G', ArgsOut W g G' (M.map Mv.of) → Calls Tryz.prog fn #[.slice (some ⟨g, 0, none⟩) n cap] W (IntPost P W))
    (hres : doubt (flatAll M) = false → ∀ y z, Pf y → y.k ≠ 6 → P z → y.k = 1 ∧ y.s = ⟨#[]⟩ ∧ (FloatKind.f64.format.order z y.of.x != some .eq) = false) :
    Calls Tryz.prog 5 #[.func (.func fn) #[] #[], .string nm, .slice (some ⟨b, off, none⟩) n c] w fun e w' => e = .returned (.bool true) ∧ Below w.heap.size w w' := by
  refine agrees_args fn nm b off n c G M (fun m => m.rows = [] ∧ Pf m.x) (fun r => r.rows = [] ∧ r.g.k = 1 ∧ r.g.s = ⟨#[]⟩ ∧ P r.g.x) w hcf hn hargs hlen h0 htot ?_ ?_ ?_ ?_
  · rintro ⟨x, rows⟩ ⟨hr, hp⟩
    simp only at hr hp
    subst hr
    have ho := hwant x hp
    exact ⟨⟨fun _ => ho, by simp, by simp⟩, by unfold flatM; rw [if_neg ho.ne5]; simp⟩
  · intro W hW
    refine (hcall W hW).mono ?_
    rintro e w1 ⟨y, hy, rfl, hb⟩
    exact ⟨⟨y, none, 0, 0⟩, ⟨y, []⟩, ⟨rfl, hy⟩, rfl, ⟨rfl, .inl ⟨(hwant y hy).ne5, rfl, rfl, rfl, rfl⟩⟩, hb⟩
  · intro hd W g cap G' ha
    refine (hfn hd W g cap G' ha).mono ?_
    rintro e w1 ⟨z, hz, rfl, hb⟩
    exact ⟨⟨⟨1, z, ⟨#[]⟩⟩, none, 0, 0⟩, ⟨⟨1, z, ⟨#[]⟩⟩, []⟩, ⟨rfl, rfl, rfl, hz⟩, rfl, ⟨rfl, .inl ⟨by simp, rfl, rfl, rfl, rfl⟩⟩, hb⟩
  · intro hd W v u r m hr hm hdm hv hu
    obtain ⟨⟨gk, gx, gs⟩, rr⟩ := r
    obtain ⟨x, rows⟩ := m
    obtain ⟨hr1, hr2, hr3, hr4⟩ := hr
    obtain ⟨hm1, hm2⟩ := hm
    simp only at hr1 hr2 hr3 hr4 hm1 hm2
    subst hr1 hr2 hr3 hm1
    have ho := hwant x hm2
    obtain ⟨vg, vA, vm, vc⟩ := v
    obtain ⟨ux, uA, um, uc⟩ := u
    obtain ⟨h1, ⟨_, _, h2, h3, h4⟩ | ⟨h2, _⟩⟩ := hv
    · obtain ⟨k1, ⟨_, _, k2, k3, k4⟩ | ⟨k2, _⟩⟩ := hu
      · simp only at h1 h2 h3 h4 k1 k2 k3 k4
        subst h1 h2 h3 h4 k1 k2 k3 k4
        have h6 : ux.k ≠ 6 := by
          intro h6
          have : doubt (flatM ⟨ux, []⟩) = true := by unfold flatM doubt; rw [if_neg ho.ne5]; simp [h6]
          rw [hdm] at this; cases this
        obtain ⟨hk, hs, hx⟩ := hres hd ux gx hm2 h6 hr4
        have := same_flat 1 gx ux ho hk.symm hx W
        rw [hs] at this
        rw [show ux.s = ⟨#[]⟩ from hs]
        exact this
      · simp only at k2; rw [k2] at ho; exact absurd rfl ho.ne5
    · cases h2

end Go.Proofs.YtdpkjhohklfieaaGreat
