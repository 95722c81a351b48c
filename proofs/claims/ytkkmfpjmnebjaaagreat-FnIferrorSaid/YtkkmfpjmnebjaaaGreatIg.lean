/- IFNA, IFERROR: what both share on the package's side. -/
import Derived.Test.YtkkmfpjmnebjaaaGreatIf
set_option linter.unusedSimpArgs false
set_option linter.unusedVariables false
namespace Go.Proofs.YtkkmfpjmnebjaaaGreat
open Go.RowKit
set_option maxRecDepth 100000
set_option maxHeartbeats 1000000

theorem Zero5.drew {w : World} {B : Nat} (h : Zero5 w B) : Zero5 w.drew B := h

/-- A list of two values, cell by cell. -/
structure List2 (w : World) (LB E G : Nat) (u v : Value) : Prop where
  lt : LB < w.heap.size
  lte : E < w.heap.size
  ltg : G < w.heap.size
  r0 : w.cell? ⟨LB, 0, none⟩ = some (.pointer (some ⟨E, 0, none⟩))
  r1 : w.cell? ⟨LB, 1, none⟩ = some (.pointer (some ⟨G, 0, none⟩))
  r4 : w.cell? ⟨LB, 4, none⟩ = some (.int .i64 2)
  e3 : w.cell? ⟨E, 3, none⟩ = some u
  g3 : w.cell? ⟨G, 3, none⟩ = some v
theorem IsList.two {w : World} {LB : Nat} {es : List Nat} {u v : Value} (h : IsList w LB es [u, v]) : ∃ E G, List2 w LB E G u v := by
  have hl := h.len
  match es, hl with
  | [E, G], _ =>
    obtain ⟨q, hq⟩ := h.node 0 E u rfl rfl
    obtain ⟨q2, hq2⟩ := h.node 1 G v rfl rfl
    exact ⟨E, G, h.lt, hq.lt, hq2.lt, by rw [h.root.cell]; rfl, by rw [h.root.cell]; rfl, by rw [h.root.cell]; rfl, by rw [hq.cell]; rfl, by rw [hq2.cell]; rfl⟩
theorem back_any (LB E : Nat) (n : Int) (w : World) (h1 : w.cell? ⟨LB, 1, none⟩ = some (.pointer (some ⟨E, 0, none⟩))) (h4 : w.cell? ⟨LB, 4, none⟩ = some (.int .i64 n)) (hn : n ≠ 0) :
    Calls Tryz.prog 105 #[.pointer (some ⟨LB, 0, none⟩)] w fun e w' => e = .returned (.pointer (some ⟨E, 0, none⟩)) ∧ w = w' := by
  have hn' : (n == 0) = false := by simpa using hn
  go_enter Tryz.func105, Tryz.ntmps105
  go_wp2
  go_ret
  exact ⟨rfl, rfl⟩

/-- The package's own form of a single value is of one make. -/
theorem Gl.form (g : Gl) : ∃ (x : Nat) (s : ByteArray) (b : Bool) (e : ByteArray) (t : Int), g.inner = (.agg #[.string ⟨#[]⟩, .float .f64 x, .string s, .slice none 0 0, .slice none 0 0, .bool b, .string e, .int .u8 t, .pointer none, .pointer none]) := by
  unfold Gl.inner
  split
  · exact ⟨_, _, _, _, _, rfl⟩
  · split
    · exact ⟨_, _, _, _, _, rfl⟩
    · split
      · exact ⟨_, _, _, _, _, rfl⟩
      · split
        · exact ⟨_, _, _, _, _, rfl⟩
        · exact ⟨_, _, _, _, _, rfl⟩

/-- What a single value comes out as, when it went in and nothing was done. -/
def Gl.back (g : Gl) : Gl := if g.k = 1 then ⟨1, Fl.clean g.x, ⟨#[]⟩⟩ else if g.k = 2 then ⟨2, 0, g.s⟩ else if g.k = 3 then ⟨3, g.x, ⟨#[]⟩⟩ else if g.k = 4 then ⟨4, 0, g.s⟩ else ⟨0, 0, ⟨#[]⟩⟩
theorem outs_inner (g : Gl) : Outs g.inner g.back := by
  intro W
  unfold Gl.inner Gl.back
  split
  · exact doorArg_num _ W
  · split
    · exact doorArg_text _ W
    · split
      · exact doorArg_bool _ W
      · split
        · exact doorArg_err _ _ W
        · exact doorArg_empty W
theorem zero_same : (FloatKind.f64.format.order 0 0 != some .eq) = false := by decide +kernel
theorem back_same (x : Fv) (h : x.Ok) (h0 : x.k ≠ 0) (h6 : x.k ≠ 6) (hs : x.k = 1 ∨ x.k = 3 → x.s = ⟨#[]⟩) :
    x.of.back.k = x.k ∧ x.of.back.s = x.s ∧ (FloatKind.f64.format.order x.of.back.x x.of.x != some .eq) = false := by
  obtain ⟨k, n, d, s⟩ := x
  rcases h with h | ⟨h, _, _, hd⟩ | ⟨h, h3⟩
  · simp only at h h0 h6
    rcases h with h | h | h | h
    · exact absurd h h0
    · subst h
      rw [Fv.of_eqE 2 n d s (.inr (.inl rfl))]
      exact ⟨rfl, rfl, zero_same⟩
    · subst h
      rw [Fv.of_eqE 4 n d s (.inr (.inr (.inl rfl)))]
      exact ⟨rfl, rfl, zero_same⟩
    · exact absurd h h6
  · change k = 1 at h; subst h
    have hs' : s = ⟨#[]⟩ := hs (.inl rfl)
    subst hs'
    rw [Fv.of_eq1]
    refine ⟨rfl, rfl, ?_⟩
    show (FloatKind.f64.format.order (Fl.clean (Fl.nb n d)) (Fl.nb n d) != some .eq) = false
    rw [show FloatKind.f64.format = Ieee.double from rfl, Fl.clean_order _ (Fl.nb_num n d hd)]
    rfl
  · change k = 3 at h; subst h
    have hs' : s = ⟨#[]⟩ := hs (.inr rfl)
    subst hs'
    rw [Fv.of_eq3]
    rcases h3 with h3 | h3
    · simp only at h3; subst h3; exact ⟨rfl, rfl, by decide +kernel⟩
    · simp only at h3; subst h3; exact ⟨rfl, rfl, by decide +kernel⟩

theorem Row.fst {w : World} {b off size : Nat} {c d : List Value} (h : Row w b off size [c, d]) : Row w b off size [c] := by
  intro i e hi
  match i, hi with
  | 0, hi => exact h 0 e hi
  | i + 1, hi => simp at hi
theorem Row.snd {w : World} {b off size : Nat} {c d : List Value} (h : Row w b off size [c, d]) : Row w b (off + size) size [d] := by
  intro i e hi
  match i, hi with
  | 0, hi =>
    have := h 1 e hi
    simpa using this
  | i + 1, hi => simp at hi
theorem row_two (w : World) (x y : Fv) : Row (w.alloc (.cells #[.int .i64 x.k, .int .i64 x.n, .int .i64 x.d, .string x.s, .slice none 0 0, .int .i64 y.k, .int .i64 y.n, .int .i64 y.d, .string y.s, .slice none 0 0] 27)) w.heap.size 0 5 [x.cells, y.cells] := by
  intro i d hi
  match i, hi with
  | 0, hi =>
    simp at hi; subst hi
    refine ⟨rfl, fun j v hj => ?_⟩
    rw [Nat.zero_mul, Nat.zero_add, (Blk.new w _ _).cell j]
    match j, hj with
    | 0, hj => exact hj
    | 1, hj => exact hj
    | 2, hj => exact hj
    | 3, hj => exact hj
    | 4, hj => exact hj
    | j + 5, hj => simp [Fv.cells] at hj
  | 1, hi =>
    simp at hi; subst hi
    refine ⟨rfl, fun j v hj => ?_⟩
    rw [(Blk.new w _ _).cell _]
    match j, hj with
    | 0, hj => exact hj
    | 1, hj => exact hj
    | 2, hj => exact hj
    | 3, hj => exact hj
    | 4, hj => exact hj
    | j + 5, hj => simp [Fv.cells] at hj
  | i + 2, hi => simp at hi

end Go.Proofs.YtkkmfpjmnebjaaaGreat
