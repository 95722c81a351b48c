/- The letters of an ASCII text, counted as UTF-16 does. -/
import Derived.Test.YtdpkjhohklfieaaGreatDoorUa
import Derived.Lib.OthersKept
import Derived.Deep.LoopGhost
set_option linter.unusedSimpArgs false
set_option linter.unusedVariables false
namespace Go.Proofs.YtdpkjhohklfieaaGreatDoor
open Go.RowKit
set_option maxRecDepth 100000
set_option maxHeartbeats 1000000

theorem runeLen_ascii (r : Nat) (w : World) (h : r < 128) : Calls Tryz.prog 60 #[.int .i32 (r : Int)] w fun e w' => e = .returned (.int .i64 1) ∧ w = w' := by
  have h1 : (0 : Int) ≤ (r : Int) := by omega
  have h2 : (r : Int) < 55296 := by omega
  go_enter Tryz.func60, Tryz.ntmps60
  go_wp2
  go_ret
  exact ⟨rfl, rfl⟩

set_option maxHeartbeats 4000000 in
theorem count16_any (s : ByteArray) (w : World) (ha : ∀ c ∈ s.data.toList, c.toNat < 128) (hs : s.size ≤ 100000) :
    Calls Tryz.prog 46 #[.string s] w fun e w' => e = .returned (.int .i64 s.size) ∧ Below w.heap.size w w' := by
  have HA := Lib.hid ha
  clear ha
  go_enter Tryz.func46, Tryz.ntmps46
  go_wp2_with fail
  go_loopg [3] s.size (fun gf v wx => ∃ pos : Nat, v = .int .i64 pos ∧ wx.heap[w.heap.size]? = some (.stringIter s pos) ∧ Below w.heap.size w wx ∧ pos + gf = s.size)
  case atStart => exact ⟨0, rfl, World.iter_heap w s 0, (Below.refl _ w).alloc (Nat.le_refl _) _, by omega⟩
  case round =>
    obtain ⟨pos, rfl, hit, hbw, hk⟩ := hrel
    by_cases hlt : pos < s.size
    · obtain ⟨g', rfl⟩ : ∃ g', gk = g' + 1 := ⟨gk - 1, by omega⟩
      have hl : s.data.toList.length = s.size := Array.length_toList
      obtain ⟨r, hr⟩ : ∃ r, r = (s[pos]'hlt).toNat := ⟨_, rfl⟩
      have hr1 : r < 128 := by rw [hr]; exact HA.out _ (show s.data.toList[pos]'(by omega) ∈ s.data.toList from List.getElem_mem _)
      have hnx : ∀ ty, (Instr.next (.pointer (some ⟨w.heap.size, 0, none⟩)) true ty).run Tryz.prog wr = _ := fun ty => Lib.run_next_ascii_at wr w.heap.size s pos ty hit hlt (by rw [← hr]; exact hr1)
      rw [← hr] at hnx
      have hit2 := Lib.iterAt_heap wr w.heap.size s pos (pos + 1) hit
      have hbw2 := Lib.below_iterAt hbw (k := w.heap.size) (Nat.le_refl _) s (pos + 1)
      obtain ⟨W, hWd⟩ : ∃ W, wr.iterAt w.heap.size s (pos + 1) = W := ⟨_, rfl⟩
      rw [hWd] at hnx hit2 hbw2
      have HR := Lib.hid (And.intro hit2 (And.intro hbw2 hr1))
      clear hit hbw hit2 hbw2 hr hr1
      go_wp2_with fail
      (with_reducible refine (runeLen_ascii r _ HR.out.2.2).mono ?_)
      rintro e w4 ⟨rfl, rfl⟩
      go_wp2_with fail
      go_roundg g'
      case measure => omega
      case rel => exact ⟨pos + 1, by go_num, HR.out.1, HR.out.2.1, by omega⟩
    · have hpe : pos = s.size := by omega
      have hnx : ∀ ty, (Instr.next (.pointer (some ⟨w.heap.size, 0, none⟩)) true ty).run Tryz.prog wr = _ := fun ty => Lib.run_next_end_at wr w.heap.size s pos ty hit hlt
      have HB := Lib.hid hbw
      clear hbw hit
      subst hpe
      go_wp2
      go_ret
      exact ⟨rfl, HB.out⟩

end Go.Proofs.YtdpkjhohklfieaaGreatDoor
