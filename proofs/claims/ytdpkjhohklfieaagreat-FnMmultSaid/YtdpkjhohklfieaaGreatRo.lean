/- Arguments that are slices, opened for the rows. -/
import Derived.Test.YtdpkjhohklfieaaGreatLa
import Derived.Test.YtdpkjhohklfieaaGreatPb
import Derived.ProofKit
import Derived.OpenShut
import Derived.ChangeOld
import Derived.Deep.Slices
import Derived.Deep.Fields
import Derived.ChangeSame
import Derived.Carry
set_option linter.unusedSimpArgs false
set_option linter.unusedVariables false
namespace Go.Proofs.YtdpkjhohklfieaaGreat
open Go.RowKit Go.ChangeShapes Go.WideShapes Go.Deep

section
variable {H : Type} {enc : TypeId × Value → H} {P : Program} {w : World} {base : Nat} {spare : Nat → Bool} {held : Bool}
theorem open_slice_fields {t e : TypeId} {fs : Array Field} {fuel : Nat} {cs : List Value} {x : DataW H × List MemPlace} (ht : P.underlying t = some (.slice e)) (he : P.underlying e = some (.struct fs))
    (hone : oneCellFields P fs = true) (hC : P.cellsOf e = fs.size) (h : DataW.trod enc P w base spare held fuel t cs = some x) :
    (cs = [.slice none 0 0] ∧ x = (.nil, [])) ∨
    ∃ (a : Addr) (len cap m : Nat) (D : Nat → DataW H) (Pl : Nat → List MemPlace), cs = [.slice (some a) len cap] ∧ base ≤ a.block ∧ len ≤ cap ∧ cap ≤ maxLen ∧ m = (if spare a.block then cap else len) ∧
      x = (.slice ((List.range len).map D) ((List.range (m - len)).map fun j => D (len + j)), MemPlace.row a (m * fs.size) ++ (List.range m).flatMap Pl) ∧
      ∀ i, i < m → ∃ (ys : List (DataW H × List MemPlace)) (n : Nat), D i = .agg (ys.map (·.1)) ∧ Pl i = ys.flatMap (·.2) ∧ ys.length = fs.size ∧
        ∀ (j : Nat) (f : Field), fs[j]? = some f → ∃ (v : Value) (y : DataW H × List MemPlace), w.cell? (a.add (i * fs.size + j)) = some v ∧ ys[j]? = some y ∧ DataW.trod enc P w base spare held n f.type [v] = some y := by
  rcases open_slice ht h with h0 | ⟨a, len, cap, m, n, D, Pl, hcs, hb, hl, hm, hmm, hx, hi⟩
  · exact .inl h0
  · refine .inr ⟨a, len, cap, m, D, Pl, hcs, hb, hl, hm, hmm, by rw [hC] at hx; exact hx, fun i him => ?_⟩
    obtain ⟨cs', hc, ht'⟩ := hi i him
    rw [hC] at hc
    obtain ⟨ys, n', hn', hy, hlen, hyl, hf⟩ := DataW.trod_struct he ht'
    obtain ⟨_, hcl, hat⟩ := World.cells?_some hc
    simp only [Prod.mk.injEq] at hy
    refine ⟨ys, n', hy.1, hy.2, hyl, fun j f hj => ?_⟩
    obtain ⟨ho, hk⟩ := hone_of hone j f hj
    have hjl : j < fs.size := (Array.getElem?_eq_some_iff.1 hj).1
    have hcell := hat j hjl
    have hv : cs'[j]? = some (cs'[j]'(by omega)) := List.getElem?_eq_getElem (by omega)
    have h1 := hf j f hj
    rw [ho, hk] at h1
    have hone' : (cs'.drop j).take 1 = [cs'[j]'(by omega)] := by
      rw [List.drop_eq_getElem_cons (by omega)]
      rfl
    rw [hone'] at h1
    have hys : ys[j]? = some (ys[j]'(by omega)) := List.getElem?_eq_getElem (by omega)
    refine ⟨_, _, ?_, hys, h1.trans hys⟩
    rw [← Go.Deep.add_add, hcell, hv]
end

theorem items_list {w : World} {b off : Nat} (l : Nat) (h : ∀ i, i < l → ∃ x : It, x.Ok ∧ ∀ j v, x.cells[j]? = some v → w.cell? ⟨b, off + i * 3 + j, none⟩ = some v) :
    ∃ X : List It, X.length = l ∧ Row w b off 3 (X.map It.cells) ∧ ∀ x ∈ X, x.Ok := by
  induction l with
  | zero => exact ⟨[], rfl, by intro i c hi; simp at hi, by simp⟩
  | succ l ih =>
    obtain ⟨X, h1, h2, h3⟩ := ih fun i hi => h i (by omega)
    obtain ⟨x, hx, hc⟩ := h l (by omega)
    refine ⟨X ++ [x], by simp [h1], ?_, ?_⟩
    · intro i c hi
      by_cases hil : i < X.length
      · rw [List.map_append, List.getElem?_append_left (by simpa using hil)] at hi
        exact h2 i c hi
      · have hie : i = X.length := by
          have := (List.getElem?_eq_some_iff.1 hi).1
          simp at this; omega
        subst hie
        simp at hi
        subst hi
        rw [h1]
        exact ⟨rfl, hc⟩
    · intro y hy
      rcases List.mem_append.1 hy with hy | hy
      · exact h3 y hy
      · simp at hy; subst hy; exact hx

theorem open_items {H : Type} {enc : TypeId × Value → H} {w : World} {A : Option Addr} {len cap : Nat} {d : DataW H} {p : List MemPlace} (h : DataW.Trod enc Tryz.prog w 0 (fun _ => true) true 31 (.slice A len cap) d p) :
    ∃ X : List It, X.length = len ∧ ItemsIn w A cap X := by
  obtain ⟨fuel, hf⟩ := h
  rcases open_slice_fields Tryz.underlying31 Tryz.underlying54 (by kernel_rfl) (by kernel_rfl) hf with ⟨hcs, _⟩ | ⟨a, l, c, m, D, Pl, hcs, _, hl, hm, hmm, _, hi⟩
  · simp [Value.cells] at hcs
    obtain ⟨rfl, rfl, rfl⟩ := hcs
    exact ⟨[], rfl, .inl rfl, by simp, by omega, by simp⟩
  · simp [Value.cells] at hcs
    obtain ⟨rfl, rfl, rfl⟩ := hcs
    simp only [if_true] at hmm
    subst hmm
    have hmax : m ≤ 9223372036854775807 := hm
    by_cases hl0 : len = 0
    · subst hl0
      exact ⟨[], rfl, .inl rfl, by simp, hmax, by simp⟩
    · obtain ⟨b, off, spot⟩ := a
      have key : ∀ i, i < m → ∃ x : It, x.Ok ∧ ∀ j v, x.cells[j]? = some v → w.cell? ((⟨b, off, spot⟩ : Addr).add (i * 3 + j)) = some v := by
        intro i him
        obtain ⟨ys, n, _, _, _, hfs⟩ := hi i him
        obtain ⟨v0, y0, c0, _, t0⟩ := hfs 0 _ rfl
        obtain ⟨v1, y1, c1, _, t1⟩ := hfs 1 _ rfl
        obtain ⟨v2, y2, c2, _, t2⟩ := hfs 2 _ rfl
        obtain ⟨k, hk, _, wk⟩ := DataW.trod_int Tryz.underlying3 t0
        obtain ⟨q, hq, _, wq⟩ := DataW.trod_int Tryz.underlying3 t1
        obtain ⟨s, hs, _, _⟩ := DataW.trod_string Tryz.underlying9 t2
        injection hk with hk
        injection hq with hq
        injection hs with hs
        subst hk hq hs
        obtain ⟨u0, u1⟩ := (Lit.wf_int_iff _ _).1 wk
        obtain ⟨u2, u3⟩ := (Lit.wf_int_iff _ _).1 wq
        refine ⟨⟨k, q, s⟩, ⟨⟨u0, u1⟩, ⟨u2, u3⟩⟩, ?_⟩
        intro j v hj
        match j, hj with
        | 0, hj => simp [It.cells] at hj; subst hj; exact c0
        | 1, hj => simp [It.cells] at hj; subst hj; exact c1
        | 2, hj => simp [It.cells] at hj; subst hj; exact c2
        | j + 3, hj => simp [It.cells] at hj
      have hspot : spot = none := by
        obtain ⟨x, _, hx⟩ := key 0 (by omega)
        have := hx 0 _ rfl
        have := World.cell?_spot this
        simpa [Addr.add] using this
      subst hspot
      obtain ⟨X, h1, h2, h3⟩ := items_list len (w := w) (b := b) (off := off) fun i hil => by
        obtain ⟨x, hx, hc⟩ := key i (by omega)
        refine ⟨x, hx, fun j v hj => ?_⟩
        have := hc j v hj
        have hadd : (⟨b, off, none⟩ : Addr).add (i * 3 + j) = ⟨b, off + (i * 3 + j), none⟩ := by unfold Addr.add; split <;> simp_all
        rwa [hadd, ← Nat.add_assoc] at this
      have hbl : b < w.heap.size := by
        obtain ⟨x, _, hx⟩ := key 0 (by omega)
        have := World.block_lt_of_cell? w _ (hx 0 _ rfl)
        simpa [Addr.add] using this
      exact ⟨X, h1, .inr ⟨b, off, rfl, hbl, h2⟩, by rw [h1]; exact hl, hmax, h3⟩

end Go.Proofs.YtdpkjhohklfieaaGreat
