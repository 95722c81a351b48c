/- TRIM in the thin package; what the law asks besides. -/
import Derived.Test.YtdpkjhohklfieaaGreatDoorTj
set_option linter.unusedSimpArgs false
set_option linter.unusedVariables false
namespace Go.Proofs.YtdpkjhohklfieaaGreatDoor
open Go.RowKit
set_option maxRecDepth 100000
set_option maxHeartbeats 1000000

theorem door_TRIM (b off c : Nat) (g : Gl) (f : Value) (res : Gl) (w : World) (hok : g.Ok) (hrow : Row w b off 4 [g.cells]) (hb : b < w.heap.size)
    (hf : ∀ (W : World) (p : Addr) (LB E : Nat), List1 W LB E (.iface 58 g.inner) → Calls Tryz.prog 28 #[.pointer (some p), .pointer (some ⟨LB, 0, none⟩)] W fun e w' => e = .returned f ∧ Below W.heap.size W w')
    (ho : Outs f res) :
    Calls Tryz.prog 21 #[.slice (some ⟨b, off, none⟩) 1 c] w fun e w' => e = .returned (.agg #[.int .i64 res.k, .float .f64 res.x, .string res.s, .slice none 0 0]) ∧ Below w.heap.size w w' := by
  have z0 := Zero4.new w 47
  have hbA : Below w.heap.size w (w.alloc (.cells #[.int .i64 0, .float .f64 0, .string ⟨#[]⟩, .slice none 0 0] 47)) := (Below.refl _ _).alloc (Nat.le_refl _) _
  go_enter Tryz.func21, Tryz.ntmps21
  go_wp2_with fail
  refine (doorFuncs_any _).mono ?_
  rintro e w1 ⟨rfl, hb1⟩
  have hbw1 := hbA.trans (hb1.mono (by simp))
  have z1 := z0.below hb1
  go_wp2_with fail
  refine (innerList_flat b off c [g] _ (by intro x hx; simp at hx; subst hx; exact hok) (hrow.below hbw1 hb) (Nat.lt_of_lt_of_le hb hbw1.size) (by simp)).mono ?_
  rintro e w2 ⟨rfl, ⟨es, hl⟩, hb2⟩
  obtain ⟨E, h1⟩ := hl.one
  have hbw2 := hbw1.trans (hb2.mono hbw1.size)
  have z2 := z1.below hb2
  go_wp2_with fail
  refine (hf _ _ _ _ h1).mono ?_
  rintro e w3 ⟨rfl, hb3⟩
  have hbw3 := hbw2.trans (hb3.mono hbw2.size)
  have z3 := z2.below hb3
  go_wp2_with fail
  refine (ho _).mono ?_
  rintro e w4 ⟨rfl, hb4⟩
  have hbw := hbw3.trans (hb4.mono hbw3.size)
  obtain ⟨q, q0, q1, q2, q3, qf⟩ := z3.below hb4
  clear z0 z1 z2 z3 hb1 hb2 hb3 hb4 hbw1 hbw2 hbw3 hbA hl h1 hrow hok
  go_wp2
  exact bodyPost_ret (v := (.agg #[.int .i64 res.k, .float .f64 res.x, .string res.s, .slice none 0 0])) (by simp [results, Tryz.results21, go_sem, q, q0, q1, q2, q3, qf]) rfl ⟨rfl, (by (repeat' (first | with_reducible exact Below.refl _ _ | with_reducible refine Below.setCell ?_ ?_ _ | with_reducible refine Below.alloc ?_ ?_ _ | with_reducible refine Below.drew ?_ | with_reducible refine Below.trans ?_ (Below.mono (by assumption) ?_))); all_goals (first | omega | (simp [World.setCell]; done) | (simp [World.setCell]; omega)))⟩

theorem impl_TRIM (A : Option Addr) (c : Nat) (g : Gl) (f : Value) (res : Gl) (w : World) (hok : g.Ok) (hsrc : Src w w.heap.size A 4 [g.cells])
    (hf : ∀ (W : World) (p : Addr) (LB E : Nat), List1 W LB E (.iface 58 g.inner) → Calls Tryz.prog 28 #[.pointer (some p), .pointer (some ⟨LB, 0, none⟩)] W fun e w' => e = .returned f ∧ Below W.heap.size W w')
    (ho : Outs f res) :
    Calls Tryz.prog 8 #[.slice A 1 c] w fun e w' => e = .returned (.agg #[.int .i64 res.k, .float .f64 res.x, .string res.s, .slice none 0 0]) ∧ Below w.heap.size w w' := by
  rcases hsrc with h | ⟨b, off, rfl, hb, hrow⟩
  · cases h
  have z0 := Zero4.new w 39
  have hbA : Below w.heap.size w (w.alloc (.cells #[.int .i64 0, .float .f64 0, .string ⟨#[]⟩, .slice none 0 0] 39)) := (Below.refl _ _).alloc (Nat.le_refl _) _
  go_enter Tryz.func8, Tryz.ntmps8
  go_wp2_with fail
  refine (in_flat b off c [g] _ (hrow.below hbA hb) (Nat.lt_of_lt_of_le hb hbA.size) (by simp)).mono ?_
  rintro e w1 ⟨v, rfl, hown, hb1⟩
  have hbw1 := hbA.trans (hb1.mono (by simp))
  have z1 := z0.below hb1
  obtain ⟨A2, cap2, rfl, hs2⟩ := hown.src
  rcases hs2 with h | ⟨b2, off2, rfl, hb2', hrow2⟩
  · cases h
  go_wp2_with fail
  refine (door_TRIM b2 off2 cap2 g f res _ hok hrow2 hb2' hf ho).mono ?_
  rintro e w2 ⟨rfl, hb2⟩
  have hbw2 := hbw1.trans (hb2.mono hbw1.size)
  have z2 := z1.below hb2
  go_wp2_with fail
  refine (out_flat res.k res.x res.s _).mono ?_
  rintro e w3 ⟨rfl, hb3⟩
  have hbw := hbw2.trans (hb3.mono hbw2.size)
  obtain ⟨q, q0, q1, q2, q3, qf⟩ := z2.below hb3
  clear z0 z1 z2 hb1 hb2 hb3 hbw1 hbw2 hbA hown hrow hrow2 hok
  go_wp2
  exact bodyPost_ret (v := (.agg #[.int .i64 res.k, .float .f64 res.x, .string res.s, .slice none 0 0])) (by simp [results, Tryz.results8, go_sem, q, q0, q1, q2, q3, qf]) rfl ⟨rfl, (by (repeat' (first | with_reducible exact Below.refl _ _ | with_reducible refine Below.setCell ?_ ?_ _ | with_reducible refine Below.alloc ?_ ?_ _ | with_reducible refine Below.drew ?_ | with_reducible refine Below.trans ?_ (Below.mono (by assumption) ?_))); all_goals (first | omega | (simp [World.setCell]; done) | (simp [World.setCell]; omega)))⟩

theorem out_text (t : ByteArray) : Outs (.agg #[.string ⟨#[]⟩, .float .f64 0, .string t, .slice none 0 0, .slice none 0 0, .bool false, .string ⟨#[]⟩, .int .u8 2, .pointer none, .pointer none]) ⟨2, 0, t⟩ := fun W => doorArg_text t W
theorem impl_TRIM_text (A : Option Addr) (c : Nat) (s : ByteArray) (w : World) (ha : ∀ c ∈ s.data.toList, c.toNat < 128) (hs : s.size ≤ 100000) (hsrc : Src w w.heap.size A 4 [(⟨2, 0, s⟩ : Gl).cells]) :
    Calls Tryz.prog 8 #[.slice A 1 c] w fun e w' => e = .returned (.agg #[.int .i64 2, .float .f64 0, .string (trimB s), .slice none 0 0]) ∧ Below w.heap.size w w' :=
  impl_TRIM A c ⟨2, 0, s⟩ (.agg #[.string ⟨#[]⟩, .float .f64 0, .string (trimB s), .slice none 0 0, .slice none 0 0, .bool false, .string ⟨#[]⟩, .int .u8 2, .pointer none, .pointer none]) ⟨2, 0, trimB s⟩ w (.inr (.inr (.inl rfl))) hsrc (fun W p LB E h => ff_TRIM p LB E s W h ha hs) (out_text _)

theorem ascii_any (s : ByteArray) (w : World) (hs : s.size ≤ 1000) :
    Calls Tryz.prog 6 #[.string s] w fun e w' => (e = .returned (.bool false) ∨ (e = .returned (.bool true) ∧ ∀ c ∈ s.data.toList, c.toNat < 128)) ∧ w = w' := by
  go_enter Tryz.func6, Tryz.ntmps6
  go_wp2_with fail
  go_loopw [3] (fun i wr => ∃ k : Nat, k ≤ s.size ∧ i = .int .i64 k ∧ wr = w ∧ ∀ j (h : j < s.size), j < k → (s[j]'h).toNat < 128) (fun i _ => s.size - (intOf i).toNat)
  case atStart => exact ⟨0, Nat.zero_le _, rfl, rfl, fun j h hj => absurd hj (Nat.not_lt_zero _)⟩
  case round =>
    obtain ⟨k, hk, rfl, rfl, hall⟩ := hrel
    have HL := Lib.hid hall
    clear hall
    by_cases hlt : k < s.size
    · by_cases g1 : ((s[k]'hlt).toNat : Int) < 32
      · go_wp2
        go_ret
        exact ⟨.inl rfl, rfl⟩
      · by_cases g2 : (126 : Int) < ((s[k]'hlt).toNat : Int)
        · go_wp2
          go_ret
          exact ⟨.inl rfl, rfl⟩
        · have HK := Lib.hid (show (s[k]'hlt).toNat < 128 by omega)
          go_wp2_with fail
          go_roundw
          case rel =>
            refine ⟨k + 1, by omega, by go_num, trivial, fun j h hj => ?_⟩
            by_cases e : j = k
            · subst e; exact HK.out
            · exact HL.out j h (by omega)
          case measure => simp [intOf]; omega
    · go_wp2
      go_ret
      refine ⟨.inr ⟨rfl, fun c hc => ?_⟩, rfl⟩
      obtain ⟨j, hj, rfl⟩ := List.mem_iff_getElem.1 hc
      have hl : s.data.toList.length = s.size := Array.length_toList
      exact HL.out j (by omega) (by omega)

theorem short1_any (g : Nat) (s : ByteArray) (w : World) (h0 : w.cell? ⟨g, 0, none⟩ = some (.string s)) :
    Calls Tryz.prog 5 #[.slice (some ⟨g, 0, none⟩) 1 1] w fun e w' => e = .returned (.bool (decide (s.size ≤ 1000))) ∧ w = w' := by
  by_cases hs : 1000 < s.size
  · rw [decide_eq_false (by omega)]
    go_enter Tryz.func5, Tryz.ntmps5
    go_wp2_with fail
    refine wp_loop_rounds 2 ?_
    rw [rounds_succ]
    go_wp2
    go_ret
    exact ⟨rfl, rfl⟩
  · rw [decide_eq_true (by omega)]
    go_enter Tryz.func5, Tryz.ntmps5
    go_wp2_with fail
    refine wp_loop_rounds 2 ?_
    rw [rounds_succ]
    go_wp2_with fail
    rw [rounds_succ]
    go_wp2
    go_ret
    exact ⟨rfl, rfl⟩

/-- What the program's function says of flat values, where it is a text. -/
theorem said_text (fn : Nat) (b off c : Nat) (L : List Fv) (t : ByteArray) (w : World) (hcf : ∀ (args : Array Value) (W : World), Sem.run Tryz.prog (callFunc fn args) W = .ok (.enter fn args) W)
    (hok : ∀ x ∈ L, x.Ok) (hrow : Row w b off 5 (L.map Fv.cells)) (hb : b < w.heap.size) (hlen : L.length ≤ 1000)
    (hfn : ∀ W A c', Src W W.heap.size A 4 (ofs L) → Calls Tryz.prog fn #[.slice A L.length c'] W fun e w' => e = .returned (.agg #[.int .i64 2, .float .f64 0, .string t, .slice none 0 0]) ∧ Below W.heap.size W w') :
    Calls Tryz.prog 7 #[.func (.func fn) #[] #[], .slice (some ⟨b, off, none⟩) L.length c] w fun e w' => e = .returned (.agg #[.int .i64 2, .int .i64 0, .int .i64 0, .string t, .slice none 0 0]) ∧ Below w.heap.size w w' := by
  have z0 := Zero5.new w
  have hbA : Below w.heap.size w (w.alloc (.cells #[.int .i64 0, .int .i64 0, .int .i64 0, .string ⟨#[]⟩, .slice none 0 0] 26)) := (Below.refl _ _).alloc (Nat.le_refl _) _
  have HA := Lib.hid (all_flat b off c L _ hok (hrow.below hbA hb) (Nat.lt_of_lt_of_le hb hbA.size) hlen)
  have HF := Lib.hid hfn
  have HBA := Lib.hid hbA
  obtain ⟨n, hn⟩ : ∃ n, n = L.length := ⟨_, rfl⟩
  rw [← hn] at HA HF
  rw [← hn]
  have HN := Lib.hid hn
  clear hfn hrow hok hbA hn
  go_enter Tryz.func7, Tryz.ntmps7
  go_wp2_with fail
  (with_reducible refine (HA.out).mono ?_)
  rintro e w1 ⟨v, rfl, hown, hb1⟩
  have hbw1 := HBA.out.trans (hb1.mono HBA.out.size)
  have z1 := z0.below hb1
  obtain ⟨A2, cap2, rfl, hs2⟩ := hown.src
  have hle : (ofs L).length = n := by unfold ofs; rw [List.length_map]; exact HN.out.symm
  rw [hle]
  have HC := Lib.hid (HF.out w1 A2 cap2 hs2)
  clear hown hs2 hb1 hle
  go_wp2_with fail
  (with_reducible refine (HC.out).mono ?_)
  rintro e w2 ⟨rfl, hb2⟩
  have hbw2 := hbw1.trans (hb2.mono hbw1.size)
  have z2 := z1.below hb2
  have HB2 := Lib.hid (hbw2.alloc hbw2.size (.cells #[.int .i64 2, .float .f64 0, .string t, .slice none 0 0] 39))
  have z3 := z2.below ((Below.refl _ w2).alloc (Nat.le_refl _) (.cells #[.int .i64 2, .float .f64 0, .string t, .slice none 0 0] 39))
  clear hb2 z0 z1 z2 hbw1 HA HF HC
  go_wp2_with fail
  (with_reducible refine (str_any _ _).mono ?_)
  rintro e w4 ⟨rfl, hb4⟩
  have hbw4 := HB2.out.trans (hb4.mono HB2.out.size)
  obtain ⟨q, q0, q1, q2, q3, q4, qf⟩ := z3.below hb4
  clear hb4 z3 hbw2
  go_wp2
  exact bodyPost_ret (v := (.agg #[.int .i64 2, .int .i64 0, .int .i64 0, .string t, .slice none 0 0])) (by simp [results, Tryz.results7, go_sem, q, q0, q1, q2, q3, q4, qf]) rfl ⟨rfl, (by (repeat' (first | with_reducible exact Below.refl _ _ | with_reducible refine Below.setCell ?_ ?_ _ | with_reducible refine Below.alloc ?_ ?_ _ | with_reducible refine Below.drew ?_ | with_reducible refine Below.trans ?_ (Below.mono (by assumption) ?_))); all_goals (first | omega | (simp [World.setCell]; done) | (simp [World.setCell]; omega)))⟩

end Go.Proofs.YtdpkjhohklfieaaGreatDoor
