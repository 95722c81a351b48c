/- MDETERM in the package where newNumberMatrix refuses. -/
import Derived.Test.YtmlcaamgkgdgoaaGreatDm
set_option linter.unusedSimpArgs false
set_option linter.unusedVariables false
namespace Go.Proofs.YtmlcaamgkgdgoaaGreat
open Go.RowKit
set_option maxRecDepth 100000
set_option maxHeartbeats 1000000

def ErrF (w : World) (e : Ending) (w' : World) : Prop := e = .returned (.agg #[.string ⟨#[]⟩, .float .f64 0, .string (⟨#[35, 86, 65, 76, 85, 69, 33]⟩ : ByteArray), .slice none 0 0, .slice none 0 0, .bool false, .string (⟨#[35, 86, 65, 76, 85, 69, 33]⟩ : ByteArray), .int .u8 5, .pointer none, .pointer none]) ∧ Below w.heap.size w w'

set_option maxHeartbeats 4000000 in
theorem ff_MDETERM (p : Addr) (LB E : Nat) (A : Option Addr) (n c P Q : Nat) (w : World) (h : List1 w LB E (.iface 76 (FMat A n c P Q)))
    (hnm : ∀ W, Below w.heap.size w W → Calls Tryz.prog 86 #[FMat A n c P Q, .bool true] W (BadPost W)) :
    Calls Tryz.prog 60 #[.pointer (some p), .pointer (some ⟨LB, 0, none⟩)] w (ErrF w) := by
  have Z0 := Lib.hid (Zero10.new w)
  obtain ⟨hlt, hlte, r0, r1, r4, e0, e2, e3⟩ := h.below ((Below.refl _ _).alloc (Nat.le_refl _) (.cells #[.string ⟨#[]⟩, .float .f64 0, .string ⟨#[]⟩, .slice none 0 0, .slice none 0 0, .bool false, .string ⟨#[]⟩, .int .u8 0, .pointer none, .pointer none] 76))
  have hbA : Below w.heap.size w (w.alloc (.cells #[.string ⟨#[]⟩, .float .f64 0, .string ⟨#[]⟩, .slice none 0 0, .slice none 0 0, .bool false, .string ⟨#[]⟩, .int .u8 0, .pointer none, .pointer none] 76)) := (Below.refl _ _).alloc (Nat.le_refl _) _
  have HNM := Lib.hid (hnm _ hbA)
  have HBA := Lib.hid hbA
  clear h hnm hbA
  unfold FMat at e3 HNM
  go_enter Tryz.func60, Tryz.ntmps60
  go_wp2_with fail
  refine (len_any _ _ _ r4).mono ?_
  rintro e v1 ⟨rfl, rfl⟩
  go_wp2_with fail
  refine (front_any _ _ _ _ r0 r4 (by decide)).mono ?_
  rintro e v2 ⟨rfl, rfl⟩
  go_wp2_with fail
  refine HNM.out.mono ?_
  rintro e w1 ⟨v, rfl, hb1⟩
  have hbw := HBA.out.trans (hb1.mono HBA.out.size)
  obtain ⟨zl, z0, z1, z2, z3, z4, z5, z6, z7, z8, z9, zf⟩ := (Z0.out.below hb1).facts
  clear hb1 r0 r1 r4 e0 e2 e3
  go_wp2_with fail
  exact bodyPost_ret (v := (.agg #[.string ⟨#[]⟩, .float .f64 0, .string (⟨#[35, 86, 65, 76, 85, 69, 33]⟩ : ByteArray), .slice none 0 0, .slice none 0 0, .bool false, .string (⟨#[35, 86, 65, 76, 85, 69, 33]⟩ : ByteArray), .int .u8 5, .pointer none, .pointer none])) (by simp [results, Tryz.results60, go_sem, zl, z0, z1, z2, z3, z4, z5, z6, z7, z8, z9, zf]) rfl ⟨rfl, (below10 hbw (Nat.le_refl _)).alloc (by simp only [size_setCell]; exact hbw.size) _⟩

end Go.Proofs.YtmlcaamgkgdgoaaGreat
