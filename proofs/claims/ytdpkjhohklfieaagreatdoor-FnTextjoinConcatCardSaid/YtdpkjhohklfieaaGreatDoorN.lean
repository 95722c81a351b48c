/- innerList: the door in for lists of single values. -/
import Derived.Test.YtdpkjhohklfieaaGreatDoorM
import Derived.Lib.Hide
set_option linter.unusedSimpArgs false
set_option linter.unusedVariables false
namespace Go.Proofs.YtdpkjhohklfieaaGreatDoor
open Go.RowKit
set_option maxRecDepth 100000

/-- What innerList leaves: a list in a new block, with the inner forms of the values. -/
def ListPost (w : World) (vs : List Value) (w' : World) : Prop := (∃ es, IsList w' w.heap.size es vs) ∧ Below w.heap.size w w'

def faces (L : List Gl) : List Value := L.map fun g => .iface 58 g.inner

set_option maxHeartbeats 1000000 in
theorem innerList_flat (b off c : Nat) (L : List Gl) (w : World) (hok : ∀ g ∈ L, g.Ok) (hrow : Row w b off 4 (L.map Gl.cells)) (hb : b < w.heap.size) (hlen : L.length ≤ 1000) :
    Calls Tryz.prog 29 #[.slice (some ⟨b, off, none⟩) L.length c] w fun e w' => e = .returned (.pointer (some ⟨w.heap.size, 0, none⟩)) ∧ ListPost w (faces L) w' := by
  obtain ⟨n, hn⟩ : ∃ n, n = L.length := ⟨_, rfl⟩
  rw [← hn]
  rw [← hn] at hlen
  have HN := Lib.hid hn
  clear hn
  go_enter Tryz.func29, Tryz.ntmps29
  go_wp2_with (go_at_call 41; refine (new_any _).mono ?_; rintro e w1 ⟨rfl, rfl⟩)
  go_loopw [9] (fun i wr => ∃ k : Nat, k ≤ n ∧ i = .int .i64 k ∧ Below w.heap.size w wr ∧ ∃ es, IsList wr w.heap.size es (faces (L.take k)) ∧ ∀ x ∈ es, w.heap.size ≤ x) (fun i _ => n - (intOf i).toNat)
  case atStart => exact ⟨0, Nat.zero_le _, rfl, (Below.refl _ _).alloc (Nat.le_refl _) _, [], by simpa [faces] using IsList.new w, by simp⟩
  case round =>
    obtain ⟨k, hk, rfl, hbe, es, hlist, hes⟩ := hrel
    by_cases hlt : k < n
    · have hkl : k < L.length := by rw [← HN.out]; exact hlt
      obtain ⟨g, hg⟩ : ∃ g, L[k]? = some g := ⟨_, List.getElem?_eq_getElem hkl⟩
      have hgok := hok g (List.mem_of_getElem? hg)
      have hR := (hrow.below hbe hb) k g.cells (by simp [hg])
      have c0 : wr.cell? ⟨b, off + k * 4, none⟩ = some (.int .i64 g.k) := hR.2 0 _ rfl
      have c1 : wr.cell? ⟨b, off + k * 4 + 1, none⟩ = some (.float .f64 g.x) := hR.2 1 _ rfl
      have c2 : wr.cell? ⟨b, off + k * 4 + 2, none⟩ = some (.string g.s) := hR.2 2 _ rfl
      have c3 : wr.cell? ⟨b, off + k * 4 + 3, none⟩ = some (.slice none 0 0) := hR.2 3 _ rfl
      have HG := Lib.hid hg
      have HR := Lib.hid hrow
      have hle : es.length ≤ 1000 := by have := hlist.len; simp [faces] at this; omega
      have hsz := hlist.lt
      have hL := hlist
      clear hg hR hrow hok
      go_wp2_with fail
      refine (innerArg_flat g hgok _).mono ?_
      rintro e w1 ⟨rfl, hb1⟩
      have hL1 := (hL.below (w' := wr.alloc _) ((Below.refl _ _).alloc (Nat.le_refl _) (.cells #[.int .i64 g.k, .float .f64 g.x, .string g.s, .slice none 0 0] 47))).below hb1
      go_wp2_with fail
      refine (pushBack_any w.heap.size es _ _ _ w1 hL1 (by omega)).mono ?_
      rintro e w2 ⟨rfl, hl2, hb2⟩
      have hz1 := hb1.size
      simp only [World.size_alloc] at hz1
      have hb3 : Below w.heap.size w w2 := ((hbe.alloc (by omega) _).trans (hb1.mono (by simp; omega))).trans (hb2 _ (Nat.le_refl _) hes)
      have hfin : faces (L.take (k + 1)) = faces (L.take k) ++ [.iface 58 g.inner] := by
        unfold faces
        rw [List.take_add_one, HG.out]; simp
      rw [← hfin] at hl2
      clear hfin hb2 hL1 hL hlist hbe c0 c1 c2 c3
      go_wp2
      go_roundw
      case rel => exact ⟨k + 1, by omega, by go_num, hb3, _, hl2, by intro x hx; simp at hx; rcases hx with hx | hx; exact hes x hx; omega⟩
      case measure => simp [intOf]; omega
    · have hkn : k = n := by omega
      subst hkn
      go_wp2
      go_ret
      refine ⟨rfl, ⟨es, ?_⟩, hbe⟩
      rw [List.take_of_length_le (by rw [HN.out]; exact Nat.le_refl _)] at hlist
      exact hlist

theorem innerList_nil (w : World) :
    Calls Tryz.prog 29 #[.slice none 0 0] w fun e w' => e = .returned (.pointer (some ⟨w.heap.size, 0, none⟩)) ∧ ListPost w [] w' := by
  go_enter Tryz.func29, Tryz.ntmps29
  go_wp2_with (go_at_call 41; refine (new_any _).mono ?_; rintro e w1 ⟨rfl, rfl⟩)
  refine wp_loop_rounds 1 ?_
  rw [rounds_succ]
  go_wp2
  go_ret
  exact ⟨rfl, ⟨[], IsList.new w⟩, (Below.refl _ _).alloc (Nat.le_refl _) _⟩

end Go.Proofs.YtdpkjhohklfieaaGreatDoor
