/- The law FnTrimTwice. -/
import Derived.Test.YtdpkjhohklfieaaGreatDoorTv
import Derived.Deep.RegionHeld3
set_option linter.unusedSimpArgs false
set_option linter.unusedVariables false
namespace Go.Proofs.YtdpkjhohklfieaaGreatDoor
open Go.RowKit
set_option maxRecDepth 100000
set_option maxHeartbeats 1000000

theorem same_val (t : ByteArray) (w : World) : Calls Tryz.prog 10 #[(.agg #[.int .i64 2, .int .i64 0, .int .i64 0, .string t, .slice none 0 0]), (.agg #[.int .i64 2, .int .i64 0, .int .i64 0, .string t, .slice none 0 0])] w fun e w' => e = .returned (.bool true) ∧ Below w.heap.size w w' := by
  go_enter Tryz.func10, Tryz.ntmps10
  go_wp2_with fail
  refine wp_loop_rounds 1 ?_
  rw [rounds_succ]
  go_wp2
  go_ret
  exact ⟨rfl, (by (repeat' (first | with_reducible exact Below.refl _ _ | with_reducible refine Below.setCell ?_ ?_ _ | with_reducible refine Below.alloc ?_ ?_ _ | with_reducible refine Below.drew ?_ | with_reducible refine Below.trans ?_ (Below.mono (by assumption) ?_))); all_goals (first | omega | (simp [World.setCell]; done) | (simp [World.setCell]; omega)))⟩

/-- A text said by TRIM. -/
theorem said_TRIM (s : ByteArray) (W : World) (ha : ∀ c ∈ s.data.toList, c.toNat < 128) (hs : s.size ≤ 100000) :
    Calls Tryz.prog 7 #[.func (.func 8) #[] #[], .slice (some ⟨W.heap.size, 0, none⟩) 1 1] (W.alloc (.cells #[.int .i64 2, .int .i64 0, .int .i64 0, .string s, .slice none 0 0] 26)) fun e w' => e = .returned (.agg #[.int .i64 2, .int .i64 0, .int .i64 0, .string (trimB s), .slice none 0 0]) ∧ Below W.heap.size W w' := by
  have hr := row_one W 26 #[.int .i64 2, .int .i64 0, .int .i64 0, .string s, .slice none 0 0]
  have h := said_text 8 W.heap.size 0 1 [⟨2, 0, 0, s⟩] (trimB s) (W.alloc (.cells #[.int .i64 2, .int .i64 0, .int .i64 0, .string s, .slice none 0 0] 26)) (fun args W => by kernel_rfl) (by intro x hx; simp at hx; subst hx; exact .inl (.inr (.inl rfl))) hr (by simp) (by simp) (fun W A c' hsrc => impl_TRIM_text A c' s W ha hs hsrc)
  exact h.mono fun e w' ⟨he, hb⟩ => ⟨he, ((Below.refl _ W).alloc (Nat.le_refl _) _).trans (hb.mono (by simp))⟩

set_option maxHeartbeats 4000000 in
theorem law_TrimTwice (s : ByteArray) (w : World) :
    Calls Tryz.prog 3 #[.string s] w fun e w' => e = .returned (.bool true) ∧ Below w.heap.size w w' := by
  by_cases h0 : 2147483647 < s.size
  · go_enter Tryz.func3, Tryz.ntmps3
    go_wp2
    go_ret
    exact ⟨rfl, Below.refl _ _⟩
  · have hcell : (w.alloc (.cells #[.string s] 9)).cell? ⟨w.heap.size, 0, none⟩ = some (.string s) := (Blk.new w 9 #[.string s]).cell 0
    have HSH := Lib.hid (short1_any w.heap.size s (w.alloc (.cells #[.string s] 9)) hcell)
    have hbA : Below w.heap.size w (w.alloc (.cells #[.string s] 9)) := (Below.refl _ _).alloc (Nat.le_refl _) _
    obtain ⟨wA, hwA⟩ : ∃ wA, wA = w.alloc (.cells #[.string s] 9) := ⟨_, rfl⟩
    have HBA := Lib.hid (hwA ▸ hbA)
    clear hcell hbA
    by_cases h1 : s.size ≤ 1000
    · rw [decide_eq_true h1] at HSH
      go_enter Tryz.func3, Tryz.ntmps3
      go_wp2_with fail
      (with_reducible refine (HSH.out).mono ?_)
      rintro e w1 ⟨rfl, rfl⟩
      rw [← hwA]
      clear hwA HSH
      go_wp2_with fail
      (with_reducible refine (ascii_any s _ h1).mono ?_)
      rintro e w2 ⟨rfl | ⟨rfl, hasc⟩, rfl⟩
      · go_wp2
        go_ret
        exact ⟨rfl, HBA.out⟩
      · have HSA := Lib.hid fun W => said_TRIM s W hasc (by omega)
        have HSB := Lib.hid fun W => said_TRIM (trimB s) W (trimB_ascii s hasc) (by have := trimB_size s hasc; omega)
        rw [trimB_twice s hasc] at HSB
        obtain ⟨t, ht⟩ : ∃ t, t = trimB s := ⟨_, rfl⟩
        rw [← ht] at HSA HSB
        clear ht hasc
        go_wp2_with fail
        (with_reducible refine (str_any _ _).mono ?_)
        rintro e w3 ⟨rfl, hb3⟩
        have HB3 := Lib.hid (HBA.out.trans (hb3.mono HBA.out.size))
        clear hb3
        go_wp2_with fail
        (with_reducible refine (HSA.out _).mono ?_)
        rintro e w4 ⟨rfl, hb4⟩
        have HB4 := Lib.hid (HB3.out.trans (hb4.mono HB3.out.size))
        clear hb4 HSA
        go_wp2_with fail
        obtain ⟨wB, hwB⟩ : ∃ wB, wB = w4.alloc (.cells #[.int .i64 2, .int .i64 0, .int .i64 0, .string t, .slice none 0 0] 26) := ⟨_, rfl⟩
        have hblk : Blk wB w4.heap.size 26 #[.int .i64 2, .int .i64 0, .int .i64 0, .string t, .slice none 0 0] := hwB ▸ Blk.new _ _ _
        have HBB : Hid (Below w.heap.size w wB) := Lib.hid (hwB ▸ HB4.out.alloc HB4.out.size _)
        obtain ⟨VB, hVB⟩ : ∃ VB, VB = w4.heap.size := ⟨_, rfl⟩
        rw [← hVB] at hblk
        rw [← hwB, ← hVB]
        have k0 : wB.cell? ⟨VB, 0, none⟩ = some (.int .i64 2) := hblk.cell 0
        have k1 : wB.cell? ⟨VB, 1, none⟩ = some (.int .i64 0) := hblk.cell 1
        have k2 : wB.cell? ⟨VB, 2, none⟩ = some (.int .i64 0) := hblk.cell 2
        have k3 : wB.cell? ⟨VB, 3, none⟩ = some (.string t) := hblk.cell 3
        have k4 : wB.cell? ⟨VB, 4, none⟩ = some (.slice none 0 0) := hblk.cell 4
        have hlt : VB < wB.heap.size := hblk.lt
        have HS := Lib.hid fun W => same_val t W
        clear hblk hwB hVB HB4 HB3
        clear w4
        go_region_held3 (fun w' => w'.cell? ⟨VB, 0, none⟩ = some (.int .i64 2) ∧ w'.cell? ⟨VB, 1, none⟩ = some (.int .i64 0) ∧ w'.cell? ⟨VB, 2, none⟩ = some (.int .i64 0) ∧ w'.cell? ⟨VB, 3, none⟩ = some (.string t) ∧ w'.cell? ⟨VB, 4, none⟩ = some (.slice none 0 0))
          (first | go_keep | exact ⟨k0, k1, k2, k3, k4⟩ | exact ⟨q0, q1, q2, q3, q4⟩ | exact ⟨r0, r1, r2, r3, r4⟩)
          (first
            | (go_at_call 7
               refine (HSB.out wB.drew).mono ?_
               rintro e w6 ⟨rfl, hb6⟩
               have hlt6 : VB < w6.heap.size := Nat.lt_of_lt_of_le hlt hb6.size
               have q0 := (hb6.cell (p := ⟨VB, 0, none⟩) hlt).trans k0
               have q1 := (hb6.cell (p := ⟨VB, 1, none⟩) hlt).trans k1
               have q2 := (hb6.cell (p := ⟨VB, 2, none⟩) hlt).trans k2
               have q3 := (hb6.cell (p := ⟨VB, 3, none⟩) hlt).trans k3
               have q4 := (hb6.cell (p := ⟨VB, 4, none⟩) hlt).trans k4)
            | (go_at_call 10
               refine (HS.out _).mono ?_
               rintro e w7 ⟨rfl, hb7⟩
               have r0 := (hb7.cell (p := ⟨VB, 0, none⟩) hlt6).trans q0
               have r1 := (hb7.cell (p := ⟨VB, 1, none⟩) hlt6).trans q1
               have r2 := (hb7.cell (p := ⟨VB, 2, none⟩) hlt6).trans q2
               have r3 := (hb7.cell (p := ⟨VB, 3, none⟩) hlt6).trans q3
               have r4 := (hb7.cell (p := ⟨VB, 4, none⟩) hlt6).trans q4))
        go_wp2
        go_ret
        have hbw6 := HBB.out.drew.trans (hb6.mono HBB.out.size)
        exact ⟨rfl, hbw6.trans (hb7.mono hbw6.size)⟩
    · rw [decide_eq_false h1] at HSH
      go_enter Tryz.func3, Tryz.ntmps3
      go_wp2_with fail
      (with_reducible refine (HSH.out).mono ?_)
      rintro e w1 ⟨rfl, rfl⟩
      go_wp2
      go_ret
      exact ⟨rfl, hwA ▸ HBA.out⟩

end Go.Proofs.YtdpkjhohklfieaaGreatDoor
