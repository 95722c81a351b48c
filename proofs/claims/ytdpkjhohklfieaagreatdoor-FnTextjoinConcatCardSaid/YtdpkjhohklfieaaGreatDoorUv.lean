/- Doors of functions of several flat values; CONCAT in the thin package. -/
import Derived.Test.YtdpkjhohklfieaaGreatDoorUc
set_option linter.unusedSimpArgs false
set_option linter.unusedVariables false
namespace Go.Proofs.YtdpkjhohklfieaaGreatDoor
open Go.RowKit
set_option maxRecDepth 100000
set_option maxHeartbeats 1000000

theorem door_CONCAT (b off c : Nat) (L : List Gl) (f : Value) (res : Gl) (w : World) (hok : ∀ g ∈ L, g.Ok) (hrow : Row w b off 4 (L.map Gl.cells)) (hb : b < w.heap.size) (hlen : L.length ≤ 1000)
    (hf : ∀ (W : World) (p : Addr) (LB : Nat) (es : List Nat), IsList W LB es (faces L) → Calls Tryz.prog 31 #[.pointer (some p), .pointer (some ⟨LB, 0, none⟩)] W fun e w' => e = .returned f ∧ Below W.heap.size W w')
    (ho : Outs f res) :
    Calls Tryz.prog 24 #[.slice (some ⟨b, off, none⟩) L.length c] w fun e w' => e = .returned (.agg #[.int .i64 res.k, .float .f64 res.x, .string res.s, .slice none 0 0]) ∧ Below w.heap.size w w' := by
  have z0 := Zero4.new w 47
  have hbA : Below w.heap.size w (w.alloc (.cells #[.int .i64 0, .float .f64 0, .string ⟨#[]⟩, .slice none 0 0] 47)) := (Below.refl _ _).alloc (Nat.le_refl _) _
  obtain ⟨n, hn⟩ : ∃ n, n = L.length := ⟨_, rfl⟩
  have HI := Lib.hid fun (W : World) (h : Below w.heap.size w W) => innerList_flat b off c L W hok (hrow.below h hb) (Nat.lt_of_lt_of_le hb h.size) hlen
  rw [← hn] at HI
  rw [← hn]
  clear hn hok hrow hlen
  go_enter Tryz.func24, Tryz.ntmps24
  go_wp2_with fail
  refine (doorFuncs_any _).mono ?_
  rintro e w1 ⟨rfl, hb1⟩
  have hbw1 := hbA.trans (hb1.mono (by simp))
  have z1 := z0.below hb1
  go_wp2_with fail
  refine (HI.out _ hbw1).mono ?_
  rintro e w2 ⟨rfl, ⟨es, hl⟩, hb2⟩
  have hbw2 := hbw1.trans (hb2.mono hbw1.size)
  have z2 := z1.below hb2
  have HL := Lib.hid hl
  clear hl
  go_wp2_with fail
  refine (hf _ _ _ _ HL.out).mono ?_
  rintro e w3 ⟨rfl, hb3⟩
  have hbw3 := hbw2.trans (hb3.mono hbw2.size)
  have z3 := z2.below hb3
  go_wp2_with fail
  refine (ho _).mono ?_
  rintro e w4 ⟨rfl, hb4⟩
  have hbw := hbw3.trans (hb4.mono hbw3.size)
  obtain ⟨q, q0, q1, q2, q3, qf⟩ := z3.below hb4
  clear z0 z1 z2 z3 hb1 hb2 hb3 hb4 hbw1 hbw2 hbw3 hbA
  go_wp2
  exact bodyPost_ret (v := (.agg #[.int .i64 res.k, .float .f64 res.x, .string res.s, .slice none 0 0])) (by simp [results, Tryz.results24, go_sem, q, q0, q1, q2, q3, qf]) rfl ⟨rfl, (by (repeat' (first | with_reducible exact Below.refl _ _ | with_reducible refine Below.setCell ?_ ?_ _ | with_reducible refine Below.alloc ?_ ?_ _ | with_reducible refine Below.drew ?_ | with_reducible refine Below.trans ?_ (Below.mono (by assumption) ?_))); all_goals (first | omega | (simp [World.setCell]; done) | (simp [World.setCell]; omega)))⟩

theorem impl_CONCAT (A : Option Addr) (c : Nat) (L : List Gl) (f : Value) (res : Gl) (w : World) (h0 : L ≠ []) (hok : ∀ g ∈ L, g.Ok) (hlen : L.length ≤ 1000) (hsrc : Src w w.heap.size A 4 (gls L))
    (hf : ∀ (W : World) (p : Addr) (LB : Nat) (es : List Nat), IsList W LB es (faces L) → Calls Tryz.prog 31 #[.pointer (some p), .pointer (some ⟨LB, 0, none⟩)] W fun e w' => e = .returned f ∧ Below W.heap.size W w')
    (ho : Outs f res) :
    Calls Tryz.prog 15 #[.slice A L.length c] w fun e w' => e = .returned (.agg #[.int .i64 res.k, .float .f64 res.x, .string res.s, .slice none 0 0]) ∧ Below w.heap.size w w' := by
  have hg0 : gls L ≠ [] := fun h => h0 (List.map_eq_nil_iff.1 h)
  rcases hsrc with h | ⟨b, off, rfl, hb, hrow⟩
  · exact absurd h hg0
  have z0 := Zero4.new w 39
  have hbA : Below w.heap.size w (w.alloc (.cells #[.int .i64 0, .float .f64 0, .string ⟨#[]⟩, .slice none 0 0] 39)) := (Below.refl _ _).alloc (Nat.le_refl _) _
  have hgl : (gls L).length = L.length := List.length_map _
  obtain ⟨n, hn⟩ : ∃ n, n = L.length := ⟨_, rfl⟩
  have HI := Lib.hid (in_flat b off c L _ (hrow.below hbA hb) (Nat.lt_of_lt_of_le hb hbA.size) hlen)
  have HD := Lib.hid fun (W : World) (b2 off2 c2 : Nat) (hr : Row W b2 off2 4 (L.map Gl.cells)) (hb2 : b2 < W.heap.size) => door_CONCAT b2 off2 c2 L f res W hok hr hb2 hlen hf ho
  rw [← hn] at HI HD hgl
  rw [← hn]
  clear hn hok hrow hlen h0 hf ho
  go_enter Tryz.func15, Tryz.ntmps15
  go_wp2_with fail
  refine (HI.out).mono ?_
  rintro e w1 ⟨v, rfl, hown, hb1⟩
  have hbw1 := hbA.trans (hb1.mono (by simp))
  have z1 := z0.below hb1
  obtain ⟨A2, cap2, rfl, hs2⟩ := hown.src
  rcases hs2 with h | ⟨b2, off2, rfl, hb2', hrow2⟩
  · exact absurd h hg0
  rw [hgl]
  have HR := Lib.hid hrow2
  clear hrow2 hown hgl hg0
  go_wp2_with fail
  refine (HD.out _ b2 off2 cap2 HR.out hb2').mono ?_
  rintro e w2 ⟨rfl, hb2⟩
  have hbw2 := hbw1.trans (hb2.mono hbw1.size)
  have z2 := z1.below hb2
  go_wp2_with fail
  refine (out_flat res.k res.x res.s _).mono ?_
  rintro e w3 ⟨rfl, hb3⟩
  have hbw := hbw2.trans (hb3.mono hbw2.size)
  obtain ⟨q, q0, q1, q2, q3, qf⟩ := z2.below hb3
  clear z0 z1 z2 hb1 hb2 hb3 hbw1 hbw2 hbA
  go_wp2
  exact bodyPost_ret (v := (.agg #[.int .i64 res.k, .float .f64 res.x, .string res.s, .slice none 0 0])) (by simp [results, Tryz.results15, go_sem, q, q0, q1, q2, q3, qf]) rfl ⟨rfl, (by (repeat' (first | with_reducible exact Below.refl _ _ | with_reducible refine Below.setCell ?_ ?_ _ | with_reducible refine Below.alloc ?_ ?_ _ | with_reducible refine Below.drew ?_ | with_reducible refine Below.trans ?_ (Below.mono (by assumption) ?_))); all_goals (first | omega | (simp [World.setCell]; done) | (simp [World.setCell]; omega)))⟩

theorem door_TEXTJOIN (b off c : Nat) (L : List Gl) (f : Value) (res : Gl) (w : World) (hok : ∀ g ∈ L, g.Ok) (hrow : Row w b off 4 (L.map Gl.cells)) (hb : b < w.heap.size) (hlen : L.length ≤ 1000)
    (hf : ∀ (W : World) (p : Addr) (LB : Nat) (es : List Nat), IsList W LB es (faces L) → Calls Tryz.prog 30 #[.pointer (some p), .pointer (some ⟨LB, 0, none⟩)] W fun e w' => e = .returned f ∧ Below W.heap.size W w')
    (ho : Outs f res) :
    Calls Tryz.prog 23 #[.slice (some ⟨b, off, none⟩) L.length c] w fun e w' => e = .returned (.agg #[.int .i64 res.k, .float .f64 res.x, .string res.s, .slice none 0 0]) ∧ Below w.heap.size w w' := by
  have z0 := Zero4.new w 47
  have hbA : Below w.heap.size w (w.alloc (.cells #[.int .i64 0, .float .f64 0, .string ⟨#[]⟩, .slice none 0 0] 47)) := (Below.refl _ _).alloc (Nat.le_refl _) _
  obtain ⟨n, hn⟩ : ∃ n, n = L.length := ⟨_, rfl⟩
  have HI := Lib.hid fun (W : World) (h : Below w.heap.size w W) => innerList_flat b off c L W hok (hrow.below h hb) (Nat.lt_of_lt_of_le hb h.size) hlen
  rw [← hn] at HI
  rw [← hn]
  clear hn hok hrow hlen
  go_enter Tryz.func23, Tryz.ntmps23
  go_wp2_with fail
  refine (doorFuncs_any _).mono ?_
  rintro e w1 ⟨rfl, hb1⟩
  have hbw1 := hbA.trans (hb1.mono (by simp))
  have z1 := z0.below hb1
  go_wp2_with fail
  refine (HI.out _ hbw1).mono ?_
  rintro e w2 ⟨rfl, ⟨es, hl⟩, hb2⟩
  have hbw2 := hbw1.trans (hb2.mono hbw1.size)
  have z2 := z1.below hb2
  have HL := Lib.hid hl
  clear hl
  go_wp2_with fail
  refine (hf _ _ _ _ HL.out).mono ?_
  rintro e w3 ⟨rfl, hb3⟩
  have hbw3 := hbw2.trans (hb3.mono hbw2.size)
  have z3 := z2.below hb3
  go_wp2_with fail
  refine (ho _).mono ?_
  rintro e w4 ⟨rfl, hb4⟩
  have hbw := hbw3.trans (hb4.mono hbw3.size)
  obtain ⟨q, q0, q1, q2, q3, qf⟩ := z3.below hb4
  clear z0 z1 z2 z3 hb1 hb2 hb3 hb4 hbw1 hbw2 hbw3 hbA
  go_wp2
  exact bodyPost_ret (v := (.agg #[.int .i64 res.k, .float .f64 res.x, .string res.s, .slice none 0 0])) (by simp [results, Tryz.results23, go_sem, q, q0, q1, q2, q3, qf]) rfl ⟨rfl, (by (repeat' (first | with_reducible exact Below.refl _ _ | with_reducible refine Below.setCell ?_ ?_ _ | with_reducible refine Below.alloc ?_ ?_ _ | with_reducible refine Below.drew ?_ | with_reducible refine Below.trans ?_ (Below.mono (by assumption) ?_))); all_goals (first | omega | (simp [World.setCell]; done) | (simp [World.setCell]; omega)))⟩

theorem impl_TEXTJOIN (A : Option Addr) (c : Nat) (L : List Gl) (f : Value) (res : Gl) (w : World) (h0 : L ≠ []) (hok : ∀ g ∈ L, g.Ok) (hlen : L.length ≤ 1000) (hsrc : Src w w.heap.size A 4 (gls L))
    (hf : ∀ (W : World) (p : Addr) (LB : Nat) (es : List Nat), IsList W LB es (faces L) → Calls Tryz.prog 30 #[.pointer (some p), .pointer (some ⟨LB, 0, none⟩)] W fun e w' => e = .returned f ∧ Below W.heap.size W w')
    (ho : Outs f res) :
    Calls Tryz.prog 12 #[.slice A L.length c] w fun e w' => e = .returned (.agg #[.int .i64 res.k, .float .f64 res.x, .string res.s, .slice none 0 0]) ∧ Below w.heap.size w w' := by
  have hg0 : gls L ≠ [] := fun h => h0 (List.map_eq_nil_iff.1 h)
  rcases hsrc with h | ⟨b, off, rfl, hb, hrow⟩
  · exact absurd h hg0
  have z0 := Zero4.new w 39
  have hbA : Below w.heap.size w (w.alloc (.cells #[.int .i64 0, .float .f64 0, .string ⟨#[]⟩, .slice none 0 0] 39)) := (Below.refl _ _).alloc (Nat.le_refl _) _
  have hgl : (gls L).length = L.length := List.length_map _
  obtain ⟨n, hn⟩ : ∃ n, n = L.length := ⟨_, rfl⟩
  have HI := Lib.hid (in_flat b off c L _ (hrow.below hbA hb) (Nat.lt_of_lt_of_le hb hbA.size) hlen)
  have HD := Lib.hid fun (W : World) (b2 off2 c2 : Nat) (hr : Row W b2 off2 4 (L.map Gl.cells)) (hb2 : b2 < W.heap.size) => door_TEXTJOIN b2 off2 c2 L f res W hok hr hb2 hlen hf ho
  rw [← hn] at HI HD hgl
  rw [← hn]
  clear hn hok hrow hlen h0 hf ho
  go_enter Tryz.func12, Tryz.ntmps12
  go_wp2_with fail
  refine (HI.out).mono ?_
  rintro e w1 ⟨v, rfl, hown, hb1⟩
  have hbw1 := hbA.trans (hb1.mono (by simp))
  have z1 := z0.below hb1
  obtain ⟨A2, cap2, rfl, hs2⟩ := hown.src
  rcases hs2 with h | ⟨b2, off2, rfl, hb2', hrow2⟩
  · exact absurd h hg0
  rw [hgl]
  have HR := Lib.hid hrow2
  clear hrow2 hown hgl hg0
  go_wp2_with fail
  refine (HD.out _ b2 off2 cap2 HR.out hb2').mono ?_
  rintro e w2 ⟨rfl, hb2⟩
  have hbw2 := hbw1.trans (hb2.mono hbw1.size)
  have z2 := z1.below hb2
  go_wp2_with fail
  refine (out_flat res.k res.x res.s _).mono ?_
  rintro e w3 ⟨rfl, hb3⟩
  have hbw := hbw2.trans (hb3.mono hbw2.size)
  obtain ⟨q, q0, q1, q2, q3, qf⟩ := z2.below hb3
  clear z0 z1 z2 hb1 hb2 hb3 hbw1 hbw2 hbA
  go_wp2
  exact bodyPost_ret (v := (.agg #[.int .i64 res.k, .float .f64 res.x, .string res.s, .slice none 0 0])) (by simp [results, Tryz.results12, go_sem, q, q0, q1, q2, q3, qf]) rfl ⟨rfl, (by (repeat' (first | with_reducible exact Below.refl _ _ | with_reducible refine Below.setCell ?_ ?_ _ | with_reducible refine Below.alloc ?_ ?_ _ | with_reducible refine Below.drew ?_ | with_reducible refine Below.trans ?_ (Below.mono (by assumption) ?_))); all_goals (first | omega | (simp [World.setCell]; done) | (simp [World.setCell]; omega)))⟩

theorem ff_CONCAT (p : Addr) (LB : Nat) (es : List Nat) (L : List ByteArray) (w : World) (h : IsList w LB es (faces (L.map txG))) (h0 : L ≠ []) (hn : L.length ≤ 20) (hs : ∀ x ∈ L, x.size ≤ 100) :
    Calls Tryz.prog 31 #[.pointer (some p), .pointer (some ⟨LB, 0, none⟩)] w fun e w' => e = .returned (.agg #[.string ⟨#[]⟩, .float .f64 0, .string (⟨(cat L).toArray⟩), .slice none 0 0, .slice none 0 0, .bool false, .string ⟨#[]⟩, .int .u8 2, .pointer none, .pointer none]) ∧ Below w.heap.size w w' := by
  have hB0 : Blk (w.alloc (.cells #[.string ⟨#[]⟩, .float .f64 0, .string ⟨#[]⟩, .slice none 0 0, .slice none 0 0, .bool false, .string ⟨#[]⟩, .int .u8 0, .pointer none, .pointer none] 58)) w.heap.size 58 #[.string ⟨#[]⟩, .float .f64 0, .string ⟨#[]⟩, .slice none 0 0, .slice none 0 0, .bool false, .string ⟨#[]⟩, .int .u8 0, .pointer none, .pointer none] := Blk.new _ _ _
  have hbA : Below w.heap.size w (w.alloc (.cells #[.string ⟨#[]⟩, .float .f64 0, .string ⟨#[]⟩, .slice none 0 0, .slice none 0 0, .bool false, .string ⟨#[]⟩, .int .u8 0, .pointer none, .pointer none] 58)) := (Below.refl _ _).alloc (Nat.le_refl _) _
  have HC := Lib.hid (concat_any p LB es L _ (h.below hbA) h0 hn hs)
  have HB := Lib.hid (And.intro hB0 hbA)
  clear h h0 hn hs hB0 hbA
  go_enter Tryz.func31, Tryz.ntmps31
  go_wp2_with fail
  refine (HC.out).mono ?_
  rintro e w1 ⟨rfl, hb1⟩
  have hblk := HB.out.1.below hb1 HB.out.1.lt
  have HB4 := Lib.hid (HB.out.2.trans (hb1.mono HB.out.2.size))
  have zl := hblk.lt
  have z0 : w1.cell? ⟨w.heap.size, 0, none⟩ = some (.string ⟨#[]⟩) := hblk.cell 0
  have z1 : w1.cell? ⟨w.heap.size, 1, none⟩ = some (.float .f64 0) := hblk.cell 1
  have z2 : w1.cell? ⟨w.heap.size, 2, none⟩ = some (.string ⟨#[]⟩) := hblk.cell 2
  have z3 : w1.cell? ⟨w.heap.size, 3, none⟩ = some (.slice none 0 0) := hblk.cell 3
  have z4 : w1.cell? ⟨w.heap.size, 4, none⟩ = some (.slice none 0 0) := hblk.cell 4
  have z5 : w1.cell? ⟨w.heap.size, 5, none⟩ = some (.bool false) := hblk.cell 5
  have z6 : w1.cell? ⟨w.heap.size, 6, none⟩ = some (.string ⟨#[]⟩) := hblk.cell 6
  have z7 : w1.cell? ⟨w.heap.size, 7, none⟩ = some (.int .u8 0) := hblk.cell 7
  have z8 : w1.cell? ⟨w.heap.size, 8, none⟩ = some (.pointer none) := hblk.cell 8
  have z9 : w1.cell? ⟨w.heap.size, 9, none⟩ = some (.pointer none) := hblk.cell 9
  have zf : ∀ o, w1.frozen? ⟨w.heap.size, o, none⟩ = false := fun o => hblk.free o
  clear hb1 hblk
  go_wp2
  exact bodyPost_ret (v := (.agg #[.string ⟨#[]⟩, .float .f64 0, .string (⟨(cat L).toArray⟩), .slice none 0 0, .slice none 0 0, .bool false, .string ⟨#[]⟩, .int .u8 2, .pointer none, .pointer none])) (by simp [results, Tryz.results31, go_sem, zl, z0, z1, z2, z3, z4, z5, z6, z7, z8, z9, zf]) rfl ⟨rfl, belowT HB4.out (Nat.le_refl _)⟩
theorem ofs_gls (L : List ByteArray) : ofs (txts L) = gls (L.map txG) := by
  unfold ofs gls txts
  rw [List.map_map, List.map_map]
  rfl
theorem txG_ok (L : List ByteArray) : ∀ g ∈ L.map txG, g.Ok := by
  intro g hg
  obtain ⟨x, _, rfl⟩ := List.mem_map.1 hg
  exact .inr (.inr (.inl rfl))
theorem impl_CONCAT_text (A : Option Addr) (c : Nat) (L : List ByteArray) (w : World) (h0 : L ≠ []) (hn : L.length ≤ 20) (hs : ∀ x ∈ L, x.size ≤ 100) (hsrc : Src w w.heap.size A 4 (ofs (txts L))) :
    Calls Tryz.prog 15 #[.slice A (txts L).length c] w fun e w' => e = .returned (.agg #[.int .i64 2, .float .f64 0, .string (⟨(cat L).toArray⟩), .slice none 0 0]) ∧ Below w.heap.size w w' := by
  rw [ofs_gls] at hsrc
  rw [show (txts L).length = (L.map txG).length by unfold txts; rw [List.length_map, List.length_map]]
  exact impl_CONCAT A c (L.map txG) (.agg #[.string ⟨#[]⟩, .float .f64 0, .string (⟨(cat L).toArray⟩), .slice none 0 0, .slice none 0 0, .bool false, .string ⟨#[]⟩, .int .u8 2, .pointer none, .pointer none]) ⟨2, 0, ⟨(cat L).toArray⟩⟩ w (fun h => h0 (List.map_eq_nil_iff.1 h)) (txG_ok L) (by rw [List.length_map]; omega) hsrc (fun W p LB es h => ff_CONCAT p LB es L W h h0 hn hs) (out_text _)

end Go.Proofs.YtdpkjhohklfieaaGreatDoor
