/- A slice of texts as an argument, opened for the row. -/
import Derived.Test.YtdpkjhohklfieaaGreatDoorUa
import Derived.ProofKit
import Derived.OpenShut
import Derived.ChangeOld
import Derived.Deep.Slices
import Derived.Deep.Fields
import Derived.ChangeSame
import Derived.Carry
set_option linter.unusedSimpArgs false
set_option linter.unusedVariables false
namespace Go.Proofs.YtdpkjhohklfieaaGreatDoor
open Go.RowKit Go.ChangeShapes Go.WideShapes Go.Deep

theorem ones_list {α : Type} (f : α → Value) {w : World} {b off : Nat} (l : Nat) (h : ∀ i, i < l → ∃ x : α, w.cell? ⟨b, off + i, none⟩ = some (f x)) :
    ∃ X : List α, X.length = l ∧ Row w b off 1 (X.map fun x => [f x]) := by
  induction l with
  | zero => exact ⟨[], rfl, by intro i c hi; simp at hi⟩
  | succ l ih =>
    obtain ⟨X, h1, h2⟩ := ih fun i hi => h i (by omega)
    obtain ⟨x, hc⟩ := h l (by omega)
    refine ⟨X ++ [x], by simp [h1], ?_⟩
    intro i c hi
    by_cases hil : i < X.length
    · rw [List.map_append, List.getElem?_append_left (by simpa using hil)] at hi
      exact h2 i c hi
    · have hie : i = X.length := by
        have := (List.getElem?_eq_some_iff.1 hi).1
        simp at this; omega
      subst hie
      simp at hi
      subst hi
      rw [h1]
      refine ⟨rfl, fun j v hj => ?_⟩
      match j, hj with
      | 0, hj => simp at hj; subst hj; simpa using hc
      | j + 1, hj => simp at hj

theorem open_ones {α : Type} (f : α → Value) {H : Type} {enc : TypeId × Value → H} {w : World} {t e : TypeId} {A : Option Addr} {len cap : Nat} {d : DataW H} {p : List MemPlace} (ht : Tryz.prog.underlying t = some (.slice e)) (hC : Tryz.prog.cellsOf e = 1)
    (hdec : ∀ (n : Nat) (cs : List Value) (y : DataW H × List MemPlace), DataW.trod enc Tryz.prog w 0 (fun _ => true) true n e cs = some y → ∃ x, cs = [f x])
    (h : DataW.Trod enc Tryz.prog w 0 (fun _ => true) true t (.slice A len cap) d p) : ∃ X : List α, X.length = len ∧ Src w w.heap.size A 1 (X.map fun x => [f x]) := by
  obtain ⟨fuel, hf⟩ := h
  rcases open_slice ht hf with ⟨hcs, _⟩ | ⟨a, l, c, m, n, D, Pl, hcs, _, hl, hm, hmm, _, hi⟩
  · simp [Value.cells] at hcs
    obtain ⟨rfl, rfl, rfl⟩ := hcs
    exact ⟨[], rfl, .inl rfl⟩
  · simp [Value.cells] at hcs
    obtain ⟨rfl, rfl, rfl⟩ := hcs
    simp only [if_true] at hmm
    subst hmm
    by_cases hl0 : len = 0
    · subst hl0
      exact ⟨[], rfl, .inl rfl⟩
    · obtain ⟨b, off, spot⟩ := a
      have key : ∀ i, i < m → ∃ x : α, w.cell? ((⟨b, off, spot⟩ : Addr).add i) = some (f x) := by
        intro i him
        obtain ⟨cs', hc, ht'⟩ := hi i him
        obtain ⟨x, rfl⟩ := hdec _ _ _ ht'
        rw [hC] at hc
        obtain ⟨_, hcl, hat⟩ := World.cells?_some hc
        refine ⟨x, ?_⟩
        have h0 := hat 0 (by decide)
        rw [Nat.mul_one, Go.Deep.add_add] at h0
        simpa using h0
      have hspot : spot = none := by
        obtain ⟨x, hx⟩ := key 0 (by omega)
        have := World.cell?_spot hx
        simpa [Addr.add] using this
      subst hspot
      obtain ⟨X, h1, h2⟩ := ones_list f len (w := w) (b := b) (off := off) fun i hil => by
        obtain ⟨x, hc⟩ := key i (by omega)
        refine ⟨x, ?_⟩
        have hadd : (⟨b, off, none⟩ : Addr).add i = ⟨b, off + i, none⟩ := by unfold Addr.add; split <;> simp_all
        rwa [hadd] at hc
      have hbl : b < w.heap.size := by
        obtain ⟨x, hx⟩ := key 0 (by omega)
        have := World.block_lt_of_cell? w _ hx
        simpa [Addr.add] using this
      exact ⟨X, h1, .inr ⟨b, off, rfl, hbl, h2⟩⟩

theorem open_strs {H : Type} {enc : TypeId × Value → H} {w : World} {A : Option Addr} {len cap : Nat} {d : DataW H} {p : List MemPlace} (h : DataW.Trod enc Tryz.prog w 0 (fun _ => true) true 32 (.slice A len cap) d p) :
    ∃ X : List ByteArray, X.length = len ∧ StrsIn w A cap X :=
  open_ones (fun b => .string b) Tryz.underlying32 (by kernel_rfl) (fun n cs y hy => by obtain ⟨b, hb, _⟩ := DataW.trod_string Tryz.underlying9 hy; exact ⟨b, hb⟩) h

end Go.Proofs.YtdpkjhohklfieaaGreatDoor
