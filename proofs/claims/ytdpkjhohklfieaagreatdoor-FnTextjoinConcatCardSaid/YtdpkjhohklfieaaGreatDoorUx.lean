/- TEXTJOIN in the thin package. -/
import Derived.Test.YtdpkjhohklfieaaGreatDoorUt
import Derived.Test.YtdpkjhohklfieaaGreatDoorUv
set_option linter.unusedSimpArgs false
set_option linter.unusedVariables false
namespace Go.Proofs.YtdpkjhohklfieaaGreatDoor
open Go.RowKit
set_option maxRecDepth 100000
set_option maxHeartbeats 1000000

/-- Nothing between, what is empty left out, and the texts. -/
def Tj (L : List ByteArray) : List Fv := ⟨2, 0, 0, ⟨#[]⟩⟩ :: ⟨3, 1, 0, ⟨#[]⟩⟩ :: txts L
theorem tj_len (L : List ByteArray) : (Tj L).length = L.length + 2 := by unfold Tj txts; rw [List.length_cons, List.length_cons, List.length_map]
theorem ofs_tj (L : List ByteArray) : ofs (Tj L) = gls (preG ++ L.map txG) := by
  have h3 : (⟨3, 1, 0, ⟨#[]⟩⟩ : Fv).of = ⟨3, bb true, ⟨#[]⟩⟩ := by rw [Fv.of_eq3, Fl.one_bits]; rfl
  have h2 : (⟨2, 0, 0, ⟨#[]⟩⟩ : Fv).of = ⟨2, 0, ⟨#[]⟩⟩ := Fv.of_eqE 2 0 0 ⟨#[]⟩ (.inr (.inl rfl))
  show (⟨2, 0, 0, ⟨#[]⟩⟩ : Fv).of.cells :: (⟨3, 1, 0, ⟨#[]⟩⟩ : Fv).of.cells :: ofs (txts L) = _
  rw [h3, h2, ofs_gls]
  rfl
theorem tj_ok (L : List ByteArray) : ∀ g ∈ preG ++ L.map txG, g.Ok := by
  intro g hg
  rcases List.mem_append.1 hg with hg | hg
  · unfold preG at hg
    rcases List.mem_cons.1 hg with rfl | hg
    · exact .inr (.inr (.inl rfl))
    · rcases List.mem_cons.1 hg with rfl | hg
      · exact .inr (.inr (.inr (.inl ⟨rfl, true, rfl⟩)))
      · cases hg
  · exact txG_ok L g hg
theorem impl_TEXTJOIN_text (A : Option Addr) (c : Nat) (L : List ByteArray) (w : World) (h0 : L ≠ []) (hn : L.length ≤ 20) (hs : ∀ x ∈ L, x.size ≤ 100) (ha : ∀ x ∈ L, ∀ c ∈ x.data.toList, c.toNat < 128) (hsrc : Src w w.heap.size A 4 (ofs (Tj L))) :
    Calls Tryz.prog 12 #[.slice A (Tj L).length c] w fun e w' => e = .returned (.agg #[.int .i64 2, .float .f64 0, .string (⟨(cat L).toArray⟩), .slice none 0 0]) ∧ Below w.heap.size w w' := by
  rw [ofs_tj] at hsrc
  have hl : (preG ++ L.map txG).length = L.length + 2 := by rw [List.length_append, List.length_map]; unfold preG; simp; omega
  rw [tj_len, ← hl]
  exact impl_TEXTJOIN A c (preG ++ L.map txG) (.agg #[.string ⟨#[]⟩, .float .f64 0, .string (⟨(cat L).toArray⟩), .slice none 0 0, .slice none 0 0, .bool false, .string ⟨#[]⟩, .int .u8 2, .pointer none, .pointer none]) ⟨2, 0, ⟨(cat L).toArray⟩⟩ w (by unfold preG; simp) (tj_ok L) (by rw [hl]; omega) hsrc
    (fun W p LB es h => ff_TEXTJOIN p LB es L W (by unfold faces at h ⊢; rw [List.map_append] at h; exact h) h0 hn hs ha) (out_text _)

end Go.Proofs.YtdpkjhohklfieaaGreatDoor
