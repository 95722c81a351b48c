/- Texts of one's own, joined; what a store of a whole value does to what is one's own. -/
import Derived.Test.YtdpkjhohklfieaaGreatDoorUp
import Derived.Test.YtdpkjhohklfieaaGreatDoorSj
set_option linter.unusedSimpArgs false
set_option linter.unusedVariables false
namespace Go.Proofs.YtdpkjhohklfieaaGreatDoor
open Go.RowKit
set_option maxRecDepth 100000
set_option maxHeartbeats 1000000

theorem join_nil (A : Option Addr) (c : Nat) (s : ByteArray) (w : World) : Calls Tryz.prog 36 #[.slice A 0 c, .string s] w fun e w' => e = .returned (.string ⟨#[]⟩) ∧ Below w.heap.size w w' := by
  go_enter Tryz.func36, Tryz.ntmps36
  go_wp2
  go_ret
  exact ⟨rfl, Below.refl _ _⟩

theorem strs_len (L : List ByteArray) : (strs L).length = L.length := by unfold strs; rw [List.length_map]

theorem join_owned (y : Value) (xs : List ByteArray) (s : ByteArray) (base : Nat) (w : World) (h : Owns w base 9 1 y (strs xs)) (hl : xs.length ≤ 1000) (hj : (Lib.join (xs.map (·.data.toList)) s.data.toList).length ≤ 1000000) :
    Calls Tryz.prog 36 #[y, .string s] w fun e w' => e = .returned (.string ⟨(Lib.join (xs.map (·.data.toList)) s.data.toList).toArray⟩) ∧ Below w.heap.size w w' := by
  by_cases h0 : xs = []
  · subst h0
    obtain ⟨A, c, rfl, _⟩ := h.src
    exact join_nil A c s w
  · obtain ⟨g, cap, rfl, hb, hlt, hc, hm, hrow⟩ := h.row (fun he => h0 (List.map_eq_nil_iff.1 he))
    rw [strs_len] at hc ⊢
    exact Tryz.strings_Join g 0 cap xs s w (fun j x hx => by
      have hr := (hrow j [.string x] (by unfold strs; rw [List.getElem?_map, hx]; rfl)).2 0 _ rfl
      rw [Nat.mul_one] at hr
      exact hr) hlt (by omega) hc (by omega)

theorem own_ne {w : World} {base size B : Nat} {v : Value} {xs : List (List Value)} {cs : Array Value} (ho : Owns w base 9 size v xs) (hb : Blk w B 58 cs) : v.ownBlock = none ∨ v.ownBlock ≠ some B := by
  rcases ho.1.2 with ⟨hv, _⟩ | ⟨g, cap, cur, hv, _, hh, _⟩
  · exact .inl (by rw [hv]; rfl)
  · right
    rw [hv]
    intro he
    injection he with he
    have he2 : g = B := he
    subst he2
    unfold Blk at hb
    rw [hb] at hh
    injection hh with hh
    injection hh with _ h2
    exact absurd h2 (by decide)

theorem Blk.putT {w : World} {B : Nat} {t : TypeId} {u0 u1 u2 u3 u4 u5 u6 u7 u8 u9 : Value} (h : Blk w B t #[u0, u1, u2, u3, u4, u5, u6, u7, u8, u9]) (v0 v1 v2 v3 v4 v5 v6 v7 v8 v9 : Value) :
    Blk ((((((((((w.setCell ⟨B, 0, none⟩ v0).setCell ⟨B, 1, none⟩ v1).setCell ⟨B, 2, none⟩ v2).setCell ⟨B, 3, none⟩ v3).setCell ⟨B, 4, none⟩ v4).setCell ⟨B, 5, none⟩ v5).setCell ⟨B, 6, none⟩ v6).setCell ⟨B, 7, none⟩ v7).setCell ⟨B, 8, none⟩ v8).setCell ⟨B, 9, none⟩ v9) B t #[v0, v1, v2, v3, v4, v5, v6, v7, v8, v9] := by
  have h0 : Blk ((w).setCell ⟨B, 0, none⟩ v0) B t #[v0, u1, u2, u3, u4, u5, u6, u7, u8, u9] := by simpa using (h.put 0 v0)
  generalize hX1 : (w).setCell ⟨B, 0, none⟩ v0 = X1 at h0 ⊢
  have h1 : Blk ((X1).setCell ⟨B, 1, none⟩ v1) B t #[v0, v1, u2, u3, u4, u5, u6, u7, u8, u9] := by simpa using (h0.put 1 v1)
  generalize hX2 : (X1).setCell ⟨B, 1, none⟩ v1 = X2 at h1 ⊢
  have h2 : Blk ((X2).setCell ⟨B, 2, none⟩ v2) B t #[v0, v1, v2, u3, u4, u5, u6, u7, u8, u9] := by simpa using (h1.put 2 v2)
  generalize hX3 : (X2).setCell ⟨B, 2, none⟩ v2 = X3 at h2 ⊢
  have h3 : Blk ((X3).setCell ⟨B, 3, none⟩ v3) B t #[v0, v1, v2, v3, u4, u5, u6, u7, u8, u9] := by simpa using (h2.put 3 v3)
  generalize hX4 : (X3).setCell ⟨B, 3, none⟩ v3 = X4 at h3 ⊢
  have h4 : Blk ((X4).setCell ⟨B, 4, none⟩ v4) B t #[v0, v1, v2, v3, v4, u5, u6, u7, u8, u9] := by simpa using (h3.put 4 v4)
  generalize hX5 : (X4).setCell ⟨B, 4, none⟩ v4 = X5 at h4 ⊢
  have h5 : Blk ((X5).setCell ⟨B, 5, none⟩ v5) B t #[v0, v1, v2, v3, v4, v5, u6, u7, u8, u9] := by simpa using (h4.put 5 v5)
  generalize hX6 : (X5).setCell ⟨B, 5, none⟩ v5 = X6 at h5 ⊢
  have h6 : Blk ((X6).setCell ⟨B, 6, none⟩ v6) B t #[v0, v1, v2, v3, v4, v5, v6, u7, u8, u9] := by simpa using (h5.put 6 v6)
  generalize hX7 : (X6).setCell ⟨B, 6, none⟩ v6 = X7 at h6 ⊢
  have h7 : Blk ((X7).setCell ⟨B, 7, none⟩ v7) B t #[v0, v1, v2, v3, v4, v5, v6, v7, u8, u9] := by simpa using (h6.put 7 v7)
  generalize hX8 : (X7).setCell ⟨B, 7, none⟩ v7 = X8 at h7 ⊢
  have h8 : Blk ((X8).setCell ⟨B, 8, none⟩ v8) B t #[v0, v1, v2, v3, v4, v5, v6, v7, v8, u9] := by simpa using (h7.put 8 v8)
  generalize hX9 : (X8).setCell ⟨B, 8, none⟩ v8 = X9 at h8 ⊢
  have h9 : Blk ((X9).setCell ⟨B, 9, none⟩ v9) B t #[v0, v1, v2, v3, v4, v5, v6, v7, v8, v9] := by simpa using (h8.put 9 v9)
  generalize hX10 : (X9).setCell ⟨B, 9, none⟩ v9 = X10 at h9 ⊢
  exact h9

/-- The cells of a block of ten. -/
theorem cells10 {w : World} {B : Nat} {t : TypeId} {u0 u1 u2 u3 u4 u5 u6 u7 u8 u9 : Value} (h : Blk w B t #[u0, u1, u2, u3, u4, u5, u6, u7, u8, u9]) :
    B < w.heap.size ∧ (∀ o, w.frozen? ⟨B, o, none⟩ = false) ∧ w.cell? ⟨B, 0, none⟩ = some u0 ∧ w.cell? ⟨B, 1, none⟩ = some u1 ∧ w.cell? ⟨B, 2, none⟩ = some u2 ∧ w.cell? ⟨B, 3, none⟩ = some u3 ∧ w.cell? ⟨B, 4, none⟩ = some u4 ∧ w.cell? ⟨B, 5, none⟩ = some u5 ∧ w.cell? ⟨B, 6, none⟩ = some u6 ∧ w.cell? ⟨B, 7, none⟩ = some u7 ∧ w.cell? ⟨B, 8, none⟩ = some u8 ∧ w.cell? ⟨B, 9, none⟩ = some u9 :=
  ⟨h.lt, h.free, h.cell 0, h.cell 1, h.cell 2, h.cell 3, h.cell 4, h.cell 5, h.cell 6, h.cell 7, h.cell 8, h.cell 9⟩

end Go.Proofs.YtdpkjhohklfieaaGreatDoor
