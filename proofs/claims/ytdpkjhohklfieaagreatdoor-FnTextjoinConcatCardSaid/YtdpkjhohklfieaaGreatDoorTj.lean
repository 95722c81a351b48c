/- TRIM in the package. -/
import Derived.Test.YtdpkjhohklfieaaGreatDoorCk
import Derived.Test.YtdpkjhohklfieaaGreatDoorSj
import Derived.Test.YtdpkjhohklfieaaGreatDoorGr
import Derived.Test.YtdpkjhohklfieaaGreatDoorTq
import Derived.Laws.OwnMore
import Derived.Shelf.Lay
set_option linter.unusedSimpArgs false
set_option linter.unusedVariables false
namespace Go.Proofs.YtdpkjhohklfieaaGreatDoor
open Go.RowKit
set_option maxRecDepth 100000
set_option maxHeartbeats 1000000

theorem blank_pays (w : World) : PredGrows Tryz.prog 40 #[] isBlank w := by
  intro W x hx hb
  show Calls Tryz.prog 40 #[.int .i32 (x : Int)] W _
  have e : (((x : Int) == 32) : Bool) = isBlank x := by
    unfold isBlank
    by_cases h : x = 32
    · subst h; rfl
    · rw [beq_eq_false_iff_ne.2 h, beq_eq_false_iff_ne.2 (by omega)]
  go_enter Tryz.func40, Tryz.ntmps40
  go_wp2
  go_ret
  exact ⟨rfl, Below.refl _ _⟩

theorem value_text (s : ByteArray) (w : World) : Calls Tryz.prog 39 #[(.agg #[.string ⟨#[]⟩, .float .f64 0, .string s, .slice none 0 0, .slice none 0 0, .bool false, .string ⟨#[]⟩, .int .u8 2, .pointer none, .pointer none])] w fun e w' => e = .returned (.string s) ∧ Below w.heap.size w w' := by
  go_enter Tryz.func39, Tryz.ntmps39
  go_wp2
  go_ret
  exact ⟨rfl, (Below.refl _ _).alloc (Nat.le_refl _) _⟩

theorem belowT {W w : World} {b0 B : Nat} {v0 v1 v2 v3 v4 v5 v6 v7 v8 v9 : Value} (h : Below b0 W w) (hB : b0 ≤ B) :
    Below b0 W ((((((((((w.setCell ⟨B, 0, none⟩ v0).setCell ⟨B, 1, none⟩ v1).setCell ⟨B, 2, none⟩ v2).setCell ⟨B, 3, none⟩ v3).setCell ⟨B, 4, none⟩ v4).setCell ⟨B, 5, none⟩ v5).setCell ⟨B, 6, none⟩ v6).setCell ⟨B, 7, none⟩ v7).setCell ⟨B, 8, none⟩ v8).setCell ⟨B, 9, none⟩ v9) :=
  (((((((((h.setCell (p := ⟨B, 0, none⟩) hB v0).setCell (p := ⟨B, 1, none⟩) hB v1).setCell (p := ⟨B, 2, none⟩) hB v2).setCell (p := ⟨B, 3, none⟩) hB v3).setCell (p := ⟨B, 4, none⟩) hB v4).setCell (p := ⟨B, 5, none⟩) hB v5).setCell (p := ⟨B, 6, none⟩) hB v6).setCell (p := ⟨B, 7, none⟩) hB v7).setCell (p := ⟨B, 8, none⟩) hB v8).setCell (p := ⟨B, 9, none⟩) hB v9
theorem flat_ones (l : List ByteArray) : (l.map fun x => [Value.string x]).flatten = l.map Value.string := by
  induction l with
  | nil => rfl
  | cons x l ih => rw [List.map_cons, List.flatten_cons, ih]; rfl
/-- The row that strings.FieldsFunc makes. -/
theorem row_texts {w : World} {B A n : Nat} {l : List ByteArray} (hn : n = l.length) (h : w.ownsRow B 9 1 (.slice (some ⟨A, 0, none⟩) n n) n (l.map Value.string)) :
    A < w.heap.size ∧ ∀ (j : Nat) x, l[j]? = some x → w.cell? ⟨A, 0 + j, none⟩ = some (.string x) := by
  subst hn
  have hO : Owns w B 9 1 (.slice (some ⟨A, 0, none⟩) l.length l.length) (l.map fun x => [Value.string x]) := ⟨by rw [List.length_map, flat_ones]; exact h, by intro c hc; obtain ⟨x, _, rfl⟩ := List.mem_map.1 hc; rfl⟩
  refine ⟨?_, fun j x hj => ?_⟩
  · rcases hO.block_lt with hn | ⟨g, hg, _, hlt⟩
    · cases hn
    · injection hg with hg; have hg2 : A = g := hg; omega
  · have hlt : j < l.length := (List.getElem?_eq_some_iff.1 hj).1
    rw [Nat.zero_add, h.cellAt j (by omega), List.getElem?_map, hj]; rfl

set_option maxHeartbeats 4000000 in
theorem ff_TRIM (p : Addr) (LB E : Nat) (s : ByteArray) (w : World) (h : List1 w LB E (.iface 58 (.agg #[.string ⟨#[]⟩, .float .f64 0, .string s, .slice none 0 0, .slice none 0 0, .bool false, .string ⟨#[]⟩, .int .u8 2, .pointer none, .pointer none]))) (ha : ∀ c ∈ s.data.toList, c.toNat < 128) (hs : s.size ≤ 100000) :
    Calls Tryz.prog 28 #[.pointer (some p), .pointer (some ⟨LB, 0, none⟩)] w fun e w' => e = .returned (.agg #[.string ⟨#[]⟩, .float .f64 0, .string (trimB s), .slice none 0 0, .slice none 0 0, .bool false, .string ⟨#[]⟩, .int .u8 2, .pointer none, .pointer none]) ∧ Below w.heap.size w w' := by
  obtain ⟨hlt, hlte, r0, r1, r4, e0, e2, e3⟩ := h
  have hB0 : Blk (w.alloc (.cells #[.string ⟨#[]⟩, .float .f64 0, .string ⟨#[]⟩, .slice none 0 0, .slice none 0 0, .bool false, .string ⟨#[]⟩, .int .u8 0, .pointer none, .pointer none] 58)) w.heap.size 58 #[.string ⟨#[]⟩, .float .f64 0, .string ⟨#[]⟩, .slice none 0 0, .slice none 0 0, .bool false, .string ⟨#[]⟩, .int .u8 0, .pointer none, .pointer none] := Blk.new _ _ _
  have hbA : Below w.heap.size w (w.alloc (.cells #[.string ⟨#[]⟩, .float .f64 0, .string ⟨#[]⟩, .slice none 0 0, .slice none 0 0, .bool false, .string ⟨#[]⟩, .int .u8 0, .pointer none, .pointer none] 58)) := (Below.refl _ _).alloc (Nat.le_refl _) _
  have HB0 := Lib.hid (And.intro hB0 hbA)
  have r0' : ∀ o, (w.alloc o).cell? ⟨LB, 0, none⟩ = some (.pointer (some ⟨E, 0, none⟩)) := fun o => (World.cell?_alloc_lt _ _ _ hlt).trans r0
  have r4' : ∀ o, (w.alloc o).cell? ⟨LB, 4, none⟩ = some (.int .i64 1) := fun o => (World.cell?_alloc_lt _ _ _ hlt).trans r4
  have HC := Lib.hid (And.intro (trim_len s ha) (trim_count s ha))
  have HT := Lib.hid (show (⟨(Lib.join ((Lib.goFieldsP isBlank s).map (·.data.toList)) ((⟨#[32]⟩ : ByteArray).data.toList)).toArray⟩ : ByteArray) = trimB s from rfl)
  have HFF := Lib.hid fun W => Tryz.strings_FieldsFunc_grows 40 #[] (fun args W => by kernel_rfl) isBlank s W (by omega) (blank_pays W)
  obtain ⟨FS, hFS⟩ : ∃ FS, FS = Lib.goFieldsP isBlank s := ⟨_, rfl⟩
  rw [← hFS] at HC HT HFF
  clear hB0 hbA hFS
  go_enter Tryz.func28, Tryz.ntmps28
  go_wp2_with fail
  refine (len_any _ _ _ (r4' _)).mono ?_
  rintro e v1 ⟨rfl, rfl⟩
  go_wp2_with fail
  refine (front_any _ _ _ _ (r0' _) (r4' _) (by decide)).mono ?_
  rintro e v2 ⟨rfl, rfl⟩
  go_wp2_with fail
  refine (value_text s _).mono ?_
  rintro e w1 ⟨rfl, hb1⟩
  have HB1 := Lib.hid (And.intro (HB0.out.1.below hb1 HB0.out.1.lt) (HB0.out.2.trans (hb1.mono HB0.out.2.size)))
  clear hb1
  go_wp2_with fail
  refine (HFF.out _).mono ?_
  rintro e w2 ⟨A, rfl, hA, hown, hb2⟩
  have HR := Lib.hid (row_texts rfl hown)
  have HB2 := Lib.hid (And.intro (HB1.out.1.below hb2 HB1.out.1.lt) (HB1.out.2.trans (hb2.mono HB1.out.2.size)))
  clear hb2 hown
  go_wp2_with fail
  refine (Tryz.strings_Join A 0 FS.length FS ⟨#[32]⟩ _ HR.out.2 HR.out.1 (by have := HC.out.2; omega) (Nat.le_refl _) (by have := HC.out.1; exact Nat.le_trans this (by omega))).mono ?_
  rintro e w3 ⟨rfl, hb3⟩
  rw [HT.out]
  have HB3 := Lib.hid (And.intro (HB2.out.1.below hb3 HB2.out.1.lt) (HB2.out.2.trans (hb3.mono HB2.out.2.size)))
  clear hb3
  go_wp2_with fail
  refine (newString_any (trimB s) _).mono ?_
  rintro e w4 ⟨rfl, hb4⟩
  have hblk := HB3.out.1.below hb4 HB3.out.1.lt
  have HB4 := Lib.hid (HB3.out.2.trans (hb4.mono HB3.out.2.size))
  have zl := hblk.lt
  have z0 : w4.cell? ⟨w.heap.size, 0, none⟩ = some (.string ⟨#[]⟩) := hblk.cell 0
  have z1 : w4.cell? ⟨w.heap.size, 1, none⟩ = some (.float .f64 0) := hblk.cell 1
  have z2 : w4.cell? ⟨w.heap.size, 2, none⟩ = some (.string ⟨#[]⟩) := hblk.cell 2
  have z3 : w4.cell? ⟨w.heap.size, 3, none⟩ = some (.slice none 0 0) := hblk.cell 3
  have z4 : w4.cell? ⟨w.heap.size, 4, none⟩ = some (.slice none 0 0) := hblk.cell 4
  have z5 : w4.cell? ⟨w.heap.size, 5, none⟩ = some (.bool false) := hblk.cell 5
  have z6 : w4.cell? ⟨w.heap.size, 6, none⟩ = some (.string ⟨#[]⟩) := hblk.cell 6
  have z7 : w4.cell? ⟨w.heap.size, 7, none⟩ = some (.int .u8 0) := hblk.cell 7
  have z8 : w4.cell? ⟨w.heap.size, 8, none⟩ = some (.pointer none) := hblk.cell 8
  have z9 : w4.cell? ⟨w.heap.size, 9, none⟩ = some (.pointer none) := hblk.cell 9
  have zf : ∀ o, w4.frozen? ⟨w.heap.size, o, none⟩ = false := fun o => hblk.free o
  clear hb4 hblk
  go_wp2
  exact bodyPost_ret (v := (.agg #[.string ⟨#[]⟩, .float .f64 0, .string (trimB s), .slice none 0 0, .slice none 0 0, .bool false, .string ⟨#[]⟩, .int .u8 2, .pointer none, .pointer none])) (by simp [results, Tryz.results28, go_sem, zl, z0, z1, z2, z3, z4, z5, z6, z7, z8, z9, zf]) rfl ⟨rfl, belowT HB4.out (Nat.le_refl _)⟩

end Go.Proofs.YtdpkjhohklfieaaGreatDoor
