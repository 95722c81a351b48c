/- agrees: a function of the program says of single values what the reference says. -/
import Derived.Test.YtdpkjhohklfieaaGreatS
import Derived.Deep.RegionHeld3
set_option linter.unusedSimpArgs false
set_option linter.unusedVariables false
namespace Go.Proofs.YtdpkjhohklfieaaGreat
open Go.RowKit
set_option maxRecDepth 100000

theorem Fv.Ok.ne5 {x : Fv} (h : x.Ok) : x.k ≠ 5 := by
  rcases h with (h | h | h | h) | ⟨h, _⟩ | ⟨h, _⟩ <;> rw [h] <;> decide

theorem leads_leaf {d : Nat} {w : World} {B : Nat} (x : Fv) (h : x.k ≠ 5) : Leads (d + 1) w B x.cells [x] := .inl ⟨x, h, rfl, rfl⟩

/-- A matrix of one row, the row a slice of single values. -/
theorem leads_args (w : World) (B g b off c cap : Nat) (L : List Fv) (hg : w.cell? ⟨g, 0, none⟩ = some (.slice (some ⟨b, off, none⟩) L.length c)) (hgB : g < B) (hbB : b < B) (hrow : Row w b off 5 (fvs L))
    (hlen : L.length ≤ 1000) (hk : ∀ x ∈ L, x.k ≠ 5) : Leads 2 w B [.int .i64 5, .int .i64 0, .int .i64 0, .string ⟨#[]⟩, .slice (some ⟨g, 0, none⟩) 1 cap] L := by
  refine .inr ⟨0, 0, ⟨#[]⟩, some ⟨g, 0, none⟩, cap, [(.slice (some ⟨b, off, none⟩) L.length c, L)], rfl, by simp, .inr ⟨g, 0, rfl, hgB, ?_⟩, by simp, ?_⟩
  · intro i d hi
    match i, hi with
    | 0, hi =>
      simp at hi; subst hi
      refine ⟨rfl, fun j v hj => ?_⟩
      match j, hj with
      | 0, hj => simp at hj; subst hj; simpa using hg
      | j + 1, hj => simp at hj
    | i + 1, hi => simp at hi
  · intro r hr
    simp at hr; subst hr
    refine ⟨some ⟨b, off, none⟩, c, L.map fun x => (x.cells, [x]), by simp, by simpa using hlen, .inr ⟨b, off, rfl, hbB, ?_⟩, ?_, ?_⟩
    · rw [List.map_map]; exact hrow
    · rw [List.map_map]
      show L = (L.map fun x => [x]).flatten
      clear hk hlen hrow hg
      induction L with
      | nil => rfl
      | cons x r ih => simp only [List.map_cons, List.flatten_cons]; rw [← ih]; rfl
    · intro e he
      obtain ⟨x, hx, rfl⟩ := List.mem_map.1 he
      exact leads_leaf x (hk x hx)

set_option maxHeartbeats 4000000 in
theorem agrees_flat (fn : Nat) (nm : ByteArray) (b off c : Nat) (L : List Fv) (Pw : Fv → Prop) (res : Gl) (w : World)
    (hcf : ∀ (args : Array Value) (W : World), Sem.run Tryz.prog (callFunc fn args) W = .ok (.enter fn args) W)
    (hok : ∀ x ∈ L, x.Ok) (hrow : Row w b off 5 (fvs L)) (hb : b < w.heap.size) (hlen : L.length ≤ 1000) (hwant : ∀ y, Pw y → y.Ok)
    (hcall : ∀ W, Below w.heap.size w W → Calls Tryz.prog 14 #[.string nm, .slice (some ⟨b, off, none⟩) L.length c] W fun e w' => ∃ want : Fv, Pw want ∧ e = .returned (.agg #[.int .i64 want.k, .int .i64 want.n, .int .i64 want.d, .string want.s, .slice none 0 0]) ∧ Below W.heap.size W w')
    (hfn : doubt L = false → ∀ W A cap, Src W W.heap.size A 4 (ofs L) → Calls Tryz.prog fn #[.slice A L.length cap] W fun e w' => e = .returned (.agg #[.int .i64 res.k, .float .f64 res.x, .string res.s, .slice none 0 0]) ∧ Below W.heap.size W w')
    (hres : ∀ want : Fv, Pw want → doubt L = false → want.k ≠ 6 → res.k = want.k ∧ res.s = want.s ∧ (FloatKind.f64.format.order res.x want.of.x != some .eq) = false) :
    Calls Tryz.prog 5 #[.func (.func fn) #[] #[], .string nm, .slice (some ⟨b, off, none⟩) L.length c] w fun e w' => e = .returned (.bool true) ∧ Below w.heap.size w w' := by
  obtain ⟨n, hn⟩ : ∃ n, n = L.length := ⟨_, rfl⟩
  rw [← hn] at hlen
  have HC := Lib.hid hcall
  have HF := Lib.hid hfn
  have HN := Lib.hid hn
  rw [← hn]
  clear hcall hfn hn
  go_enter Tryz.func5, Tryz.ntmps5
  go_wp2_with fail
  rw [HN.out]
  refine (HC.out _ (Below.refl _ _)).mono ?_
  rintro e w1 ⟨want, hpw, rfl, hb1⟩
  replace hwant := hwant want hpw
  replace hres := hres want hpw
  clear hpw
  rw [← HN.out]
  have hz1 := hb1.size
  go_wp2_with (go_at_call 15; refine (table_any _ _ _ _).mono ?_; rintro e w2 ⟨rfl, hb2⟩; obtain ⟨hc2, hf2, hz2⟩ := bcell hb2; try simp only [World.size_alloc, size_setCell] at hz2)
  have hrow2 : Row w2 b off 5 (fvs L) := hrow.below ((hb1.trans (((Below.refl _ _).alloc hz1 (.cells #[.int .i64 want.k, .int .i64 want.n, .int .i64 want.d, .string want.s, .slice none 0 0] 27)).alloc (by simp; omega) (.cells #[.slice (some ⟨b, off, none⟩) n c] 29))).trans (hb2.mono (by simp; omega))) hb
  obtain ⟨WB, hWB⟩ : ∃ WB, WB = w1.heap.size := ⟨_, rfl⟩
  have k0 : w2.cell? ⟨WB, 0, none⟩ = some (.int .i64 want.k) := by rw [hWB, hc2 _ _ (by simp; omega)]; simp [go_sem]
  have k1 : w2.cell? ⟨WB, 1, none⟩ = some (.int .i64 want.n) := by rw [hWB, hc2 _ _ (by simp; omega)]; simp [go_sem]
  have k2 : w2.cell? ⟨WB, 2, none⟩ = some (.int .i64 want.d) := by rw [hWB, hc2 _ _ (by simp; omega)]; simp [go_sem]
  have k3 : w2.cell? ⟨WB, 3, none⟩ = some (.string want.s) := by rw [hWB, hc2 _ _ (by simp; omega)]; simp [go_sem]
  have k4 : w2.cell? ⟨WB, 4, none⟩ = some (.slice none 0 0) := by rw [hWB, hc2 _ _ (by simp; omega)]; simp [go_sem]
  have t0 : w2.cell? ⟨WB + 1, 0, none⟩ = some (.slice (some ⟨b, off, none⟩) n c) := by rw [hWB, hc2 _ _ (by simp)]; simp [go_sem]
  have hbw2 : Below w.heap.size w w2 := (hb1.trans (((Below.refl _ _).alloc hz1 (.cells #[.int .i64 want.k, .int .i64 want.n, .int .i64 want.d, .string want.s, .slice none 0 0] 27)).alloc (by simp; omega) (.cells #[.slice (some ⟨b, off, none⟩) n c] 29))).trans (hb2.mono (by simp; omega))
  rw [← hWB] at hz1 hz2
  rw [← hWB]
  clear hc2 hf2 hb2 hb1 hWB
  clear w1
  have hla := leads_args w2 w2.heap.size (WB + 1) b off c 1 L (by rw [← HN.out]; exact t0) (by omega) (by omega) hrow2 (by rw [← HN.out]; exact hlen) (fun x hx => (hok x hx).ne5)
  have HD := doubtful_any 2 w2.heap.size 5 0 0 ⟨#[]⟩ (some ⟨WB + 1, 0, none⟩) 1 1 L w2 hla (Nat.le_refl _) (by rw [← HN.out]; omega)
  have HDD := Lib.hid HD
  clear hla HD t0
  cases hdl : doubt L
  · rw [hdl] at HDD
    have HDL := Lib.hid hdl
    clear hdl
    go_wp2_with fail
    refine HDD.out.mono ?_
    rintro e w3 ⟨rfl, hb3⟩
    have hz3 := hb3.size
    have hrow3 := hrow2.below hb3 (by omega)
    have hbw3 := hbw2.trans (hb3.mono (by omega))
    replace k0 := (hb3.cell (p := ⟨WB, 0, none⟩) (by show WB < _; omega)).trans k0
    replace k1 := (hb3.cell (p := ⟨WB, 1, none⟩) (by show WB < _; omega)).trans k1
    replace k2 := (hb3.cell (p := ⟨WB, 2, none⟩) (by show WB < _; omega)).trans k2
    replace k3 := (hb3.cell (p := ⟨WB, 3, none⟩) (by show WB < _; omega)).trans k3
    replace k4 := (hb3.cell (p := ⟨WB, 4, none⟩) (by show WB < _; omega)).trans k4
    have hlw : Leads 1 w3 w3.heap.size want.cells [want] := leads_leaf want hwant.ne5
    have HE := doubtful_any 1 w3.heap.size want.k want.n want.d want.s none 0 0 [want] w3 hlw (Nat.le_refl _) (by simp)
    have HEE := Lib.hid HE
    clear HE hlw HDD hrow2 hbw2 hb3
    cases hdw : doubt [want]
    · rw [hdw] at HEE
      have hw6 : want.k ≠ 6 := by simpa [doubt] using hdw
      have HW6 := Lib.hid hw6
      clear hdw hw6
      go_wp2_with fail
      refine HEE.out.mono ?_
      rintro e w4 ⟨rfl, hb4⟩
      have hz4 := hb4.size
      have hrow4 := hrow3.below hb4 (by omega)
      have hbw4 := hbw3.trans (hb4.mono (by omega))
      replace k0 := (hb4.cell (p := ⟨WB, 0, none⟩) (by show WB < _; omega)).trans k0
      replace k1 := (hb4.cell (p := ⟨WB, 1, none⟩) (by show WB < _; omega)).trans k1
      replace k2 := (hb4.cell (p := ⟨WB, 2, none⟩) (by show WB < _; omega)).trans k2
      replace k3 := (hb4.cell (p := ⟨WB, 3, none⟩) (by show WB < _; omega)).trans k3
      replace k4 := (hb4.cell (p := ⟨WB, 4, none⟩) (by show WB < _; omega)).trans k4
      clear HEE hrow3 hbw3 hb4
      have hWB4 : WB < w4.heap.size := by omega
      obtain ⟨hrk, hrs, hrx⟩ := hres HDL.out HW6.out
      obtain ⟨rk, rx, rs⟩ := res
      simp only at hrk hrs hrx
      subst hrk hrs
      have HRX := Lib.hid hrx
      clear hrx hres
      go_wp2_with fail
      rw [HN.out]
      go_region_held3 (fun w' => w'.cell? ⟨WB, 0, none⟩ = some (.int .i64 want.k) ∧ w'.cell? ⟨WB, 1, none⟩ = some (.int .i64 want.n) ∧ w'.cell? ⟨WB, 2, none⟩ = some (.int .i64 want.d) ∧ w'.cell? ⟨WB, 3, none⟩ = some (.string want.s) ∧ w'.cell? ⟨WB, 4, none⟩ = some (.slice none 0 0))
        (first | go_keep | exact ⟨k0, k1, k2, k3, k4⟩ | exact ⟨q0, q1, q2, q3, q4⟩ | exact ⟨p0, p1, p2, p3, p4⟩ | exact ⟨r0, r1, r2, r3, r4⟩)
        (first
          | (go_at_call 16
             refine (all_flat b off c L _ hok (by exact hrow4) (by exact Nat.lt_of_lt_of_le hb hbw4.size) (by rw [← HN.out]; exact hlen)).mono ?_
             rintro e w5 ⟨v, rfl, hown5, hb5⟩
             obtain ⟨A5, cap5, rfl, hs5⟩ := hown5.src
             rw [show (ofs L).length = L.length by simp [ofs]]
             have hz5 := hb5.size
             have q0 := (hb5.cell (p := ⟨WB, 0, none⟩) hWB4).trans k0
             have q1 := (hb5.cell (p := ⟨WB, 1, none⟩) hWB4).trans k1
             have q2 := (hb5.cell (p := ⟨WB, 2, none⟩) hWB4).trans k2
             have q3 := (hb5.cell (p := ⟨WB, 3, none⟩) hWB4).trans k3
             have q4 := (hb5.cell (p := ⟨WB, 4, none⟩) hWB4).trans k4)
          | (refine (HF.out HDL.out _ A5 cap5 (by exact hs5)).mono ?_
             rintro e w6 ⟨rfl, hb6⟩
             have hz6 := hb6.size
             have hWB5 : WB < w5.heap.size := Nat.lt_of_lt_of_le hWB4 hz5
             have p0 := (hb6.cell (p := ⟨WB, 0, none⟩) hWB5).trans q0
             have p1 := (hb6.cell (p := ⟨WB, 1, none⟩) hWB5).trans q1
             have p2 := (hb6.cell (p := ⟨WB, 2, none⟩) hWB5).trans q2
             have p3 := (hb6.cell (p := ⟨WB, 3, none⟩) hWB5).trans q3
             have p4 := (hb6.cell (p := ⟨WB, 4, none⟩) hWB5).trans q4)
          | (go_at_call 12
             refine (same_flat want.k rx want hwant rfl HRX.out _).mono ?_
             rintro e w7 ⟨rfl, hb7⟩
             have hWB6 : WB < w6.heap.size := Nat.lt_of_lt_of_le (Nat.lt_of_lt_of_le hWB4 hz5) hz6
             have r0 := (hb7.cell (p := ⟨WB, 0, none⟩) hWB6).trans p0
             have r1 := (hb7.cell (p := ⟨WB, 1, none⟩) hWB6).trans p1
             have r2 := (hb7.cell (p := ⟨WB, 2, none⟩) hWB6).trans p2
             have r3 := (hb7.cell (p := ⟨WB, 3, none⟩) hWB6).trans p3
             have r4 := (hb7.cell (p := ⟨WB, 4, none⟩) hWB6).trans p4))
      go_wp2
      go_ret
      refine ⟨rfl, ?_⟩
      exact ((hbw4.drew.trans (hb5.mono (by exact hbw4.size))).trans (hb6.mono (by exact Nat.le_trans hbw4.size hz5))).trans (hb7.mono (by exact Nat.le_trans (Nat.le_trans hbw4.size hz5) hz6))
    · rw [hdw] at HEE
      clear hdw
      go_wp2_with fail
      refine HEE.out.mono ?_
      rintro e w4 ⟨rfl, hb4⟩
      go_wp2
      go_ret
      exact ⟨rfl, hbw3.trans (hb4.mono (by omega))⟩
  · rw [hdl] at HDD
    clear hdl
    go_wp2_with fail
    refine HDD.out.mono ?_
    rintro e w3 ⟨rfl, hb3⟩
    go_wp2
    go_ret
    exact ⟨rfl, hbw2.trans (hb3.mono (by omega))⟩

end Go.Proofs.YtdpkjhohklfieaaGreat
