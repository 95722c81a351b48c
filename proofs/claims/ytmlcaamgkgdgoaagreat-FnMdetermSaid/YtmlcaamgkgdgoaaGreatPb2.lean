/- COUNTBLANK of a range, in the package. -/
import Derived.Test.YtmlcaamgkgdgoaaGreatPl
set_option linter.unusedSimpArgs false
set_option linter.unusedVariables false
namespace Go.Proofs.YtmlcaamgkgdgoaaGreat
open Go.RowKit
set_option maxRecDepth 100000
set_option maxHeartbeats 1000000

/-- The package's type of a single value. -/
def tyOf (g : Gl) : Int := if g.k = 1 then 1 else if g.k = 2 then 2 else if g.k = 3 then 1 else if g.k = 4 then 5 else 6
theorem Gl.form10t (g : Gl) : ∃ (x : Nat) (s : ByteArray) (b : Bool) (e : ByteArray), g.inner = (.agg #[.string ⟨#[]⟩, .float .f64 x, .string s, .slice none 0 0, .slice none 0 0, .bool b, .string e, .int .u8 (tyOf g), .pointer none, .pointer none]) ∧ g.inn = fcells x s b e (tyOf g) := by
  unfold Gl.inner Gl.inn fcells tyOf
  split
  · exact ⟨_, _, _, _, rfl, rfl⟩
  · split
    · exact ⟨_, _, _, _, rfl, rfl⟩
    · split
      · exact ⟨_, _, _, _, rfl, rfl⟩
      · split
        · exact ⟨_, _, _, _, rfl, rfl⟩
        · exact ⟨_, _, _, _, rfl, rfl⟩
def zc (gs : List Gl) : Nat := (gs.filter fun g => tyOf g == 6).length
theorem zc_snoc (gs : List Gl) (k : Nat) (g : Gl) (h : gs[k]? = some g) : zc (gs.take (k + 1)) = zc (gs.take k) + (if tyOf g == 6 then 1 else 0) := by
  unfold zc
  rw [List.take_add_one, h]
  simp only [Option.toList, List.filter_append, List.length_append]
  cases hx : tyOf g == 6 <;> simp [hx]
theorem zc_le (gs : List Gl) : zc gs ≤ gs.length := List.length_filter_le _ _

/-- The range's own form in the package. -/
def FMat (A : Option Addr) (n c p q : Nat) : Value := .agg #[.string ⟨#[]⟩, .float .f64 0, .string ⟨#[]⟩, .slice none 0 0, .slice A n c, .bool false, .string ⟨#[]⟩, .int .u8 4, .pointer (some ⟨p, 0, none⟩), .pointer (some ⟨q, 0, none⟩)]
/-- A float64 that counts. -/
def FloatIs (n : Nat) (v : Value) : Prop := ∃ z, v = .float .f64 z ∧ Fl.Is z n
theorem List1.below {w w' : World} {LB E : Nat} {v : Value} (h : List1 w LB E v) (hb : Below w.heap.size w w') : List1 w' LB E v := by
  obtain ⟨hl, he, r0, r1, r4, e0, e2, e3⟩ := h
  obtain ⟨hc, _, hz⟩ := bcell hb
  exact ⟨by omega, by omega, (hc _ _ hl).trans r0, (hc _ _ hl).trans r1, (hc _ _ hl).trans r4, (hc _ _ he).trans e0, (hc _ _ he).trans e2, (hc _ _ he).trans e3⟩
def NumPost (P : Nat → Prop) (w : World) (e : Ending) (w' : World) : Prop := ∃ z, P z ∧ e = .returned (.agg #[.string ⟨#[]⟩, .float .f64 z, .string ⟨#[]⟩, .slice none 0 0, .slice none 0 0, .bool false, .string ⟨#[]⟩, .int .u8 1, .pointer none, .pointer none]) ∧ Below w.heap.size w w'

def Zero10 (w : World) (B : Nat) : Prop := Blk w B 76 zero10
theorem Zero10.new (w : World) : Zero10 (w.alloc (.cells #[.string ⟨#[]⟩, .float .f64 0, .string ⟨#[]⟩, .slice none 0 0, .slice none 0 0, .bool false, .string ⟨#[]⟩, .int .u8 0, .pointer none, .pointer none] 76)) w.heap.size := Blk.new w _ _
theorem Zero10.below {w w' : World} {B : Nat} (h : Zero10 w B) (hb : Below w.heap.size w w') : Zero10 w' B := Blk.below h hb (Blk.lt h)
theorem Zero10.facts {w : World} {B : Nat} (h : Zero10 w B) : B < w.heap.size ∧ w.cell? ⟨B, 0, none⟩ = some (.string ⟨#[]⟩) ∧ w.cell? ⟨B, 1, none⟩ = some (.float .f64 0) ∧ w.cell? ⟨B, 2, none⟩ = some (.string ⟨#[]⟩) ∧ w.cell? ⟨B, 3, none⟩ = some (.slice none 0 0) ∧ w.cell? ⟨B, 4, none⟩ = some (.slice none 0 0) ∧
    w.cell? ⟨B, 5, none⟩ = some (.bool false) ∧ w.cell? ⟨B, 6, none⟩ = some (.string ⟨#[]⟩) ∧ w.cell? ⟨B, 7, none⟩ = some (.int .u8 0) ∧ w.cell? ⟨B, 8, none⟩ = some (.pointer none) ∧ w.cell? ⟨B, 9, none⟩ = some (.pointer none) ∧ ∀ o, w.frozen? ⟨B, o, none⟩ = false :=
  ⟨Blk.lt h, Blk.cell h 0, Blk.cell h 1, Blk.cell h 2, Blk.cell h 3, Blk.cell h 4, Blk.cell h 5, Blk.cell h 6, Blk.cell h 7, Blk.cell h 8, Blk.cell h 9, fun o => Blk.free h o⟩
theorem below10 {W w : World} {b0 B : Nat} {a b c d f g h i j k : Value} (hb : Below b0 W w) (hB : b0 ≤ B) :
    Below b0 W ((((((((((w.setCell ⟨B, 0, none⟩ a).setCell ⟨B, 1, none⟩ b).setCell ⟨B, 2, none⟩ c).setCell ⟨B, 3, none⟩ d).setCell ⟨B, 4, none⟩ f).setCell ⟨B, 5, none⟩ g).setCell ⟨B, 6, none⟩ h).setCell ⟨B, 7, none⟩ i).setCell ⟨B, 8, none⟩ j).setCell ⟨B, 9, none⟩ k) :=
  (((((below5 hb hB).setCell (p := ⟨B, 5, none⟩) hB g).setCell (p := ⟨B, 6, none⟩) hB h).setCell (p := ⟨B, 7, none⟩) hB i).setCell (p := ⟨B, 8, none⟩) hB j).setCell (p := ⟨B, 9, none⟩) hB k

set_option maxHeartbeats 4000000 in
theorem ff_COUNTBLANK (p : Addr) (LB E : Nat) (A : Option Addr) (n c P Q : Nat) (rows : List (List Gl)) (w : World) (h : List1 w LB E (.iface 76 (FMat A n c P Q))) (hr : RowsIs 10 w (· < w.heap.size) A n (rows.map inns)) (hl : rows.length ≤ 1000) (ht : rows.flatten.length ≤ 100000) :
    Calls Tryz.prog 52 #[.pointer (some p), .pointer (some ⟨LB, 0, none⟩)] w (NumPost (fun z => Fl.Is z (zc rows.flatten)) w) := by
  have HT := Lib.hid ht
  have HR := Lib.hid (And.intro hr hl)
  have Z0 := Lib.hid (Zero10.new w)
  obtain ⟨hlt, hlte, r0, r1, r4, e0, e2, e3⟩ := h.below ((Below.refl _ _).alloc (Nat.le_refl _) (.cells #[.string ⟨#[]⟩, .float .f64 0, .string ⟨#[]⟩, .slice none 0 0, .slice none 0 0, .bool false, .string ⟨#[]⟩, .int .u8 0, .pointer none, .pointer none] 76))
  have hbA : Below w.heap.size w (w.alloc (.cells #[.string ⟨#[]⟩, .float .f64 0, .string ⟨#[]⟩, .slice none 0 0, .slice none 0 0, .bool false, .string ⟨#[]⟩, .int .u8 0, .pointer none, .pointer none] 76)) := (Below.refl _ _).alloc (Nat.le_refl _) _
  have HBA := Lib.hid hbA
  clear hr hl ht h hbA
  unfold FMat at e3
  go_enter Tryz.func52, Tryz.ntmps52
  go_wp2_with (first | (go_at_call 75; refine (len_any _ _ _ r4).mono ?_; rintro e v1 ⟨rfl, rfl⟩) | (go_at_call 77; refine (front_any _ _ _ _ r0 r4 (by decide)).mono ?_; rintro e v2 ⟨rfl, rfl⟩) | fail)
  have htl := toList_mat A n c (.pointer (some ⟨P, 0, none⟩)) (.pointer (some ⟨Q, 0, none⟩)) rows _ ((HR.out.1.keep (Keep.below HBA.out fun _ hk => hk)).more fun q hq => Nat.lt_of_lt_of_le hq HBA.out.size) HR.out.2 HT.out
  refine htl.mono ?_
  clear htl
  rintro e w1 ⟨z, rfl, hown, hb1⟩
  have hbw := HBA.out.trans (hb1.mono HBA.out.size)
  have Z1 := Lib.hid (Z0.out.below hb1)
  obtain ⟨A', cap', rfl, hsrc⟩ := hown.src
  obtain ⟨u, hu⟩ : ∃ u, u = rows.flatten.length := ⟨_, rfl⟩
  rw [show (inns rows.flatten).length = u by rw [hu]; exact List.length_map _]
  have hul : u ≤ 100000 := by rw [hu]; exact HT.out
  have HU := Lib.hid hu
  have HS := Lib.hid hsrc
  clear hown hsrc hb1 hu r0 r1 r4 e0 e2 e3
  go_wp2_with fail
  go_loopw [5, 20] (fun v i wr => ∃ k : Nat, k ≤ u ∧ i = .int .i64 k ∧ Below w1.heap.size w1 wr ∧ FloatIs (zc (rows.flatten.take k)) v) (fun _ i _ => u - (intOf i).toNat)
  case atStart => exact ⟨0, Nat.zero_le _, rfl, Below.refl _ _, 0, rfl, Fl.is_zero0⟩
  case round =>
    obtain ⟨k, hk, rfl, hbe, z, rfl, hz⟩ := hrel
    have HZ := Lib.hid hz
    clear hz
    have hsz := hbe.size
    by_cases hku : k < u
    · obtain ⟨g, hg⟩ : ∃ g, rows.flatten[k]? = some g := ⟨_, List.getElem?_eq_getElem (by rw [← HU.out]; exact hku)⟩
      rcases HS.out with hnil | ⟨b1, off1, rfl, hb1, hrow⟩
      · exfalso
        have : rows.flatten = [] := List.map_eq_nil_iff.1 hnil
        rw [this] at hg; simp at hg
      obtain ⟨x, s, bo, er, _, hinn⟩ := g.form10t
      have hR := (hrow.below hbe hb1) k g.inn (by show (rows.flatten.map Gl.inn)[k]? = _; rw [List.getElem?_map, hg]; rfl)
      rw [hinn] at hR
      have c0 : wr.cell? ⟨b1, off1 + k * 10, none⟩ = some (.string ⟨#[]⟩) := hR.2 0 _ rfl
      have c1 : wr.cell? ⟨b1, off1 + k * 10 + 1, none⟩ = some (.float .f64 x) := hR.2 1 _ rfl
      have c2 : wr.cell? ⟨b1, off1 + k * 10 + 2, none⟩ = some (.string s) := hR.2 2 _ rfl
      have c3 : wr.cell? ⟨b1, off1 + k * 10 + 3, none⟩ = some (.slice none 0 0) := hR.2 3 _ rfl
      have c4 : wr.cell? ⟨b1, off1 + k * 10 + 4, none⟩ = some (.slice none 0 0) := hR.2 4 _ rfl
      have c5 : wr.cell? ⟨b1, off1 + k * 10 + 5, none⟩ = some (.bool bo) := hR.2 5 _ rfl
      have c6 : wr.cell? ⟨b1, off1 + k * 10 + 6, none⟩ = some (.string er) := hR.2 6 _ rfl
      have c7 : wr.cell? ⟨b1, off1 + k * 10 + 7, none⟩ = some (.int .u8 (tyOf g)) := hR.2 7 _ rfl
      have c8 : wr.cell? ⟨b1, off1 + k * 10 + 8, none⟩ = some (.pointer none) := hR.2 8 _ rfl
      have c9 : wr.cell? ⟨b1, off1 + k * 10 + 9, none⟩ = some (.pointer none) := hR.2 9 _ rfl
      have hfin := zc_snoc rows.flatten k g hg
      have hle := zc_le (rows.flatten.take k)
      have hle2 : zc (rows.flatten.take k) ≤ 100000 := by
        refine Nat.le_trans hle ?_
        rw [List.length_take]; omega
      clear hg hR hrow hinn hle
      cases h6 : tyOf g == 6
      · rw [h6] at hfin
        have HF := Lib.hid hfin
        clear hfin hle2
        go_wp2_with fail
        go_roundw
        case rel => exact ⟨k + 1, by omega, by go_num, hbe.alloc hsz _, z, rfl, by have := HF.out; simp at this; rw [this]; exact HZ.out⟩
        case measure => simp [intOf]; omega
      · rw [h6] at hfin
        obtain ⟨r, hr, hri⟩ := Fl.is_add HZ.out (Fl.one_bits ▸ Fl.is_ofInt 1 (by decide)) (by omega)
        have hadd := fun wx => run_float_arith (P := Tryz.prog) wx .add 44 .f64 _ _ _ hr
        have HF := Lib.hid (And.intro hfin hri)
        clear hfin hri hr hle2
        go_wp2_with fail
        go_roundw
        case rel => exact ⟨k + 1, by omega, by go_num, hbe.alloc hsz _, r, rfl, by have := HF.out.1; simp at this; rw [this]; exact HF.out.2⟩
        case measure => simp [intOf]; omega
    · obtain rfl : k = u := by omega
      have hfin := HZ.out
      rw [List.take_of_length_le (by rw [HU.out]; exact Nat.le_refl _)] at hfin
      have HF := Lib.hid hfin
      clear hfin
      go_wp2_with fail
      refine (newNumber_any z (Fl.is_num HF.out) _).mono ?_
      rintro e w2 ⟨rfl, hb2⟩
      have hbw2 := (hbw.trans (hbe.mono hbw.size)).trans (hb2.mono (by have := hbw.size; omega))
      obtain ⟨zl, z0, z1, z2, z3, z4, z5, z6, z7, z8, z9, zf⟩ := ((Z1.out.below hbe).below hb2).facts
      clear hb2
      go_wp2
      exact bodyPost_ret (v := (.agg #[.string ⟨#[]⟩, .float .f64 (Fl.clean z), .string ⟨#[]⟩, .slice none 0 0, .slice none 0 0, .bool false, .string ⟨#[]⟩, .int .u8 1, .pointer none, .pointer none])) (by simp [results, Tryz.results52, go_sem, zl, z0, z1, z2, z3, z4, z5, z6, z7, z8, z9, zf]) rfl ⟨Fl.clean z, Fl.is_clean HF.out, rfl, below10 hbw2 (Nat.le_refl _)⟩

end Go.Proofs.YtmlcaamgkgdgoaaGreat
