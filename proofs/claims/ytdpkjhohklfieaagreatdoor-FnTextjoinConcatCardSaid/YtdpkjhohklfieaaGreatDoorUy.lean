/- What TEXTJOIN and CONCAT say of texts. -/
import Derived.Test.YtdpkjhohklfieaaGreatDoorUx
import Derived.Test.YtdpkjhohklfieaaGreatDoorTz
set_option linter.unusedSimpArgs false
set_option linter.unusedVariables false
namespace Go.Proofs.YtdpkjhohklfieaaGreatDoor
open Go.RowKit
set_option maxRecDepth 100000
set_option maxHeartbeats 1000000

theorem StrsIn.below {w w' : World} {A : Option Addr} {c : Nat} {L : List ByteArray} (h : StrsIn w A c L) (hb : Below w.heap.size w w') : StrsIn w' A c L := by
  rcases h with h | ⟨b, off, hA, hlt, hr⟩
  · exact .inl h
  · exact .inr ⟨b, off, hA, Nat.lt_of_lt_of_le hlt hb.size, hr.below hb hlt⟩

theorem own_two (w : World) (B : Nat) (h : B ≤ w.heap.size) (x y : Fv) :
    Owns (w.alloc (.cells #[.int .i64 x.k, .int .i64 x.n, .int .i64 x.d, .string x.s, .slice none 0 0, .int .i64 y.k, .int .i64 y.n, .int .i64 y.d, .string y.s, .slice none 0 0] 26)) B 26 5 (.slice (some ⟨w.heap.size, 0, none⟩) 2 2) [x.cells, y.cells] :=
  ⟨⟨rfl, .inr ⟨w.heap.size, 2, _, rfl, h, Blk.new w _ _, Nat.le_refl _, by decide, rfl, rfl⟩⟩, by intro c hc; simp at hc; rcases hc with rfl | rfl <;> rfl⟩

theorem tj_cells (L : List ByteArray) : (Tj L).map Fv.cells = [(⟨2, 0, 0, ⟨#[]⟩⟩ : Fv).cells, (⟨3, 1, 0, ⟨#[]⟩⟩ : Fv).cells] ++ (txts L).map Fv.cells := rfl
theorem txts_ok (L : List ByteArray) : ∀ x ∈ txts L, x.Ok := by
  intro x hx
  obtain ⟨s, _, rfl⟩ := List.mem_map.1 hx
  exact .inl (.inr (.inl rfl))
theorem tj_fok (L : List ByteArray) : ∀ x ∈ Tj L, x.Ok := by
  intro x hx
  rcases List.mem_cons.1 hx with rfl | hx
  · exact .inl (.inr (.inl rfl))
  · rcases List.mem_cons.1 hx with rfl | hx
    · exact .inr (.inr ⟨rfl, .inr rfl⟩)
    · exact txts_ok L x hx
theorem txts_len (L : List ByteArray) : (txts L).length = L.length := List.length_map _

theorem said_TEXTJOIN (y : Value) (L : List ByteArray) (base : Nat) (W : World) (ho : Owns W base 26 5 y ((Tj L).map Fv.cells)) (h0 : L ≠ []) (hn : L.length ≤ 20) (hs : ∀ x ∈ L, x.size ≤ 100) (ha : ∀ x ∈ L, ∀ c ∈ x.data.toList, c.toNat < 128) :
    Calls Tryz.prog 7 #[.func (.func 12) #[] #[], y] W fun e w' => e = .returned (.agg #[.int .i64 2, .int .i64 0, .int .i64 0, .string (⟨(cat L).toArray⟩), .slice none 0 0]) ∧ Below W.heap.size W w' := by
  obtain ⟨g, cap, rfl, _, hlt, _, _, hrow⟩ := ho.row (by rw [tj_cells]; simp)
  rw [List.length_map]
  exact said_text 12 g 0 cap (Tj L) ⟨(cat L).toArray⟩ W (fun args W => by kernel_rfl) (tj_fok L) hrow hlt (by rw [tj_len]; omega) (fun W A c' hsrc => impl_TEXTJOIN_text A c' L W h0 hn hs ha hsrc)

theorem said_CONCAT (y : Value) (L : List ByteArray) (base : Nat) (W : World) (ho : Owns W base 26 5 y ((txts L).map Fv.cells)) (h0 : L ≠ []) (hn : L.length ≤ 20) (hs : ∀ x ∈ L, x.size ≤ 100) :
    Calls Tryz.prog 7 #[.func (.func 15) #[] #[], y] W fun e w' => e = .returned (.agg #[.int .i64 2, .int .i64 0, .int .i64 0, .string (⟨(cat L).toArray⟩), .slice none 0 0]) ∧ Below W.heap.size W w' := by
  obtain ⟨g, cap, rfl, _, hlt, _, _, hrow⟩ := ho.row (by intro he; exact h0 (List.map_eq_nil_iff.1 (List.map_eq_nil_iff.1 he)))
  rw [List.length_map]
  exact said_text 15 g 0 cap (txts L) ⟨(cat L).toArray⟩ W (fun args W => by kernel_rfl) (txts_ok L) hrow hlt (by rw [txts_len]; omega) (fun W A c' hsrc => impl_CONCAT_text A c' L W h0 hn hs hsrc)

end Go.Proofs.YtdpkjhohklfieaaGreatDoor
