/- Columns of a matrix that is being made: values of the package in blocks of one's own, filled one behind the other. -/
import Derived.Test.YtdpkjhohklfieaaGreatDm
import Derived.Test.YtdpkjhohklfieaaGreatTr
set_option linter.unusedSimpArgs false
set_option linter.unusedVariables false
namespace Go.Proofs.YtdpkjhohklfieaaGreat
open Go.RowKit
set_option maxRecDepth 100000
set_option maxHeartbeats 1000000

def gl0 : Gl := ⟨0, 0, ⟨#[]⟩⟩
def colG (rows : List (List Gl)) (j : Nat) : List Gl := rows.map fun r => r.getD j gl0
def trg (rows : List (List Gl)) (k : Nat) : List (List Gl) := (List.range k).map (colG rows)
theorem colG_len (rows : List (List Gl)) (j : Nat) : (colG rows j).length = rows.length := by unfold colG; rw [List.length_map]
theorem colG_get (rows : List (List Gl)) (j i : Nat) (r : List Gl) (x : Gl) (hr : rows[i]? = some r) (hx : r[j]? = some x) : (colG rows j)[i]? = some x := by
  unfold colG
  rw [List.getElem?_map, hr]
  show some (r.getD j gl0) = some x
  rw [List.getD_eq_getElem?_getD, hx]; rfl

theorem trg_len (rows : List (List Gl)) (C : Nat) : (trg rows C).length = C := by unfold trg; rw [List.length_map, List.length_range]

def zerosF (n : Nat) : Array Value := madeCells ((.agg #[.string ⟨#[]⟩, .float .f64 0, .string ⟨#[]⟩, .slice none 0 0, .slice none 0 0, .bool false, .string ⟨#[]⟩, .int .u8 0, .pointer none, .pointer none]) : Value).cells (n * 10)
theorem zerosF_size (n : Nat) : (zerosF n).size = n * 10 := by unfold zerosF; rw [size_madeCells]
def nilsA (n : Nat) : Array Value := madeCells (Value.slice none 0 0).cells (n * 1)
theorem nilsA_size (n : Nat) : (nilsA n).size = n := by unfold nilsA; rw [size_madeCells, Nat.mul_one]
theorem nilsA_get (n i : Nat) (h : i < n) : (nilsA n)[i]? = some (.slice none 0 0) := by
  unfold nilsA madeCells
  have : (Value.slice none 0 0).cells = #[.slice none 0 0] := rfl
  rw [this]
  simp [h, Nat.mod_one]

theorem make_rowF (n : Nat) (h : n ≤ 1000) (W : World) : (Instr.makeSlice 62 (.int .i64 n) (.int .i64 n)).run Tryz.prog W = .ok (.slice (some ⟨W.heap.size, 0, none⟩) n n) (W.alloc (.cells (zerosF n) 67)) := by
  obtain ⟨i, hi, hz, hs, hb⟩ := info_parts infoF
  have hb2 : (i.bytes : Int) * (n : Int) ≤ 281474976710656 := by rw [hb]; omega
  have hr := run_make (P := Tryz.prog) W 62 67 i _ Tryz.underlying62 hi hz .i64 .i64 n n (by omega) (by omega) hb2 (by omega)
  rw [hs] at hr
  simp only [Int.toNat_natCast] at hr
  exact hr
theorem make_rows (n : Nat) (h : n ≤ 1000) (W : World) : (Instr.makeSlice 63 (.int .i64 n) (.int .i64 n)).run Tryz.prog W = .ok (.slice (some ⟨W.heap.size, 0, none⟩) n n) (W.alloc (.cells (nilsA n) 62)) := by
  obtain ⟨i, hi, hz, hs, hb⟩ := info_parts infoFs
  have hb2 : (i.bytes : Int) * (n : Int) ≤ 281474976710656 := by rw [hb]; omega
  have hr := run_make (P := Tryz.prog) W 63 62 i _ Tryz.underlying63 hi hz .i64 .i64 n n (by omega) (by omega) hb2 (by omega)
  rw [hs] at hr
  simp only [Int.toNat_natCast] at hr
  exact hr

/-- A value of ten cells, laid at a place. -/
def put10 (w : World) (g o : Nat) (v0 v1 v2 v3 v4 v5 v6 v7 v8 v9 : Value) : World :=
  (((((((((w.setCell ⟨g, o, none⟩ v0).setCell ⟨g, o + 1, none⟩ v1).setCell ⟨g, o + 2, none⟩ v2).setCell ⟨g, o + 3, none⟩ v3).setCell ⟨g, o + 4, none⟩ v4).setCell ⟨g, o + 5, none⟩ v5).setCell ⟨g, o + 6, none⟩ v6).setCell ⟨g, o + 7, none⟩ v7).setCell ⟨g, o + 8, none⟩ v8).setCell ⟨g, o + 9, none⟩ v9
theorem Blk.far10 {w : World} {k : Nat} {t : TypeId} {cs : Array Value} (h : Blk w k t cs) {g : Nat} (hg : k ≠ g) (o : Nat) (v0 v1 v2 v3 v4 v5 v6 v7 v8 v9 : Value) : Blk (put10 w g o v0 v1 v2 v3 v4 v5 v6 v7 v8 v9) k t cs :=
  Blk.far (Blk.far (Blk.far (Blk.far (Blk.far (Blk.far (Blk.far (Blk.far (Blk.far (Blk.far h hg _) hg _) hg _) hg _) hg _) hg _) hg _) hg _) hg _) hg _
theorem below_put10 {W w : World} {b0 g : Nat} (h : Below b0 W w) (hg : b0 ≤ g) (o : Nat) (v0 v1 v2 v3 v4 v5 v6 v7 v8 v9 : Value) : Below b0 W (put10 w g o v0 v1 v2 v3 v4 v5 v6 v7 v8 v9) :=
  Below.setCell (Below.setCell (Below.setCell (Below.setCell (Below.setCell (Below.setCell (Below.setCell (Below.setCell (Below.setCell (Below.setCell h hg _) hg _) hg _) hg _) hg _) hg _) hg _) hg _) hg _) hg _
theorem put10_size (w : World) (g o : Nat) (v0 v1 v2 v3 v4 v5 v6 v7 v8 v9 : Value) : (put10 w g o v0 v1 v2 v3 v4 v5 v6 v7 v8 v9).heap.size = w.heap.size := by
  unfold put10; simp only [size_setCell]

/-- A block with room for R values of the package, the first of which lie there. -/
def ColIs (w : World) (g R : Nat) (L : List Gl) : Prop :=
  ∃ cs : Array Value, Blk w g 67 cs ∧ cs.size = R * 10 ∧ ∀ (i : Nat) (x : Gl), L[i]? = some x → ∀ (j : Nat) (v : Value), x.inn[j]? = some v → cs[i * 10 + j]? = some v
theorem ColIs.below {w w' : World} {g R : Nat} {L : List Gl} (h : ColIs w g R L) (hb : Below w.heap.size w w') : ColIs w' g R L := by
  obtain ⟨cs, h1, h2, h3⟩ := h
  exact ⟨cs, h1.below hb h1.lt, h2, h3⟩
theorem ColIs.far {w : World} {g R : Nat} {L : List Gl} (h : ColIs w g R L) {p : Addr} (hp : g ≠ p.block) (u : Value) : ColIs (w.setCell p u) g R L := by
  obtain ⟨cs, h1, h2, h3⟩ := h
  exact ⟨cs, h1.far hp u, h2, h3⟩
theorem ColIs.far10 {w : World} {k R : Nat} {L : List Gl} (h : ColIs w k R L) {g : Nat} (hg : k ≠ g) (o : Nat) (v0 v1 v2 v3 v4 v5 v6 v7 v8 v9 : Value) : ColIs (put10 w g o v0 v1 v2 v3 v4 v5 v6 v7 v8 v9) k R L := by
  obtain ⟨cs, h1, h2, h3⟩ := h
  exact ⟨cs, h1.far10 hg _ _ _ _ _ _ _ _ _ _ _, h2, h3⟩
theorem ColIs.new (w : World) (R : Nat) : ColIs (w.alloc (.cells (zerosF R) 67)) w.heap.size R [] :=
  ⟨zerosF R, Blk.new _ _ _, zerosF_size R, by simp⟩
theorem ColIs.lt {w : World} {g R : Nat} {L : List Gl} (h : ColIs w g R L) : g < w.heap.size := by
  obtain ⟨cs, h1, _⟩ := h
  exact h1.lt
theorem inn_len (x : Gl) : x.inn.length = 10 := by
  obtain ⟨_, _, _, _, _, h⟩ := x.form10t
  rw [h]; rfl
theorem ColIs.put {w : World} {g R : Nat} {L : List Gl} (h : ColIs w g R L) (hl : L.length < R) (x : Gl) (v0 v1 v2 v3 v4 v5 v6 v7 v8 v9 : Value) (hx : x.inn = [v0, v1, v2, v3, v4, v5, v6, v7, v8, v9]) :
    ColIs (put10 w g (L.length * 10) v0 v1 v2 v3 v4 v5 v6 v7 v8 v9) g R (L ++ [x]) := by
  obtain ⟨cs, h1, h2, h3⟩ := h
  refine ⟨_, ((((((((((h1.put _ v0).put _ v1).put _ v2).put _ v3).put _ v4).put _ v5).put _ v6).put _ v7).put _ v8).put _ v9), by simp only [Array.size_setIfInBounds]; exact h2, ?_⟩
  intro i y hy j v hv
  have hj : j < 10 := by rw [← inn_len y]; exact (List.getElem?_eq_some_iff.1 hv).1
  simp only [Array.getElem?_setIfInBounds, Array.size_setIfInBounds]
  by_cases hi : i < L.length
  · rw [List.getElem?_append_left hi] at hy
    have := h3 i y hy j v hv
    rw [if_neg (by omega), if_neg (by omega), if_neg (by omega), if_neg (by omega), if_neg (by omega), if_neg (by omega), if_neg (by omega), if_neg (by omega), if_neg (by omega), if_neg (by omega)]
    exact this
  · have hil : i = L.length := by
      have := (List.getElem?_eq_some_iff.1 hy).1
      simp at this
      omega
    subst hil
    simp at hy
    subst hy
    rw [hx] at hv
    have hb : L.length * 10 + 9 < cs.size := by rw [h2]; omega
    match j, hj, hv with
    | 0, _, hv => simp at hv; subst hv; (repeat (rw [if_neg (by omega)])); rw [if_pos (by omega), if_pos (by omega)]
    | 1, _, hv => simp at hv; subst hv; (repeat (rw [if_neg (by omega)])); rw [if_pos (by omega), if_pos (by omega)]
    | 2, _, hv => simp at hv; subst hv; (repeat (rw [if_neg (by omega)])); rw [if_pos (by omega), if_pos (by omega)]
    | 3, _, hv => simp at hv; subst hv; (repeat (rw [if_neg (by omega)])); rw [if_pos (by omega), if_pos (by omega)]
    | 4, _, hv => simp at hv; subst hv; (repeat (rw [if_neg (by omega)])); rw [if_pos (by omega), if_pos (by omega)]
    | 5, _, hv => simp at hv; subst hv; (repeat (rw [if_neg (by omega)])); rw [if_pos (by omega), if_pos (by omega)]
    | 6, _, hv => simp at hv; subst hv; (repeat (rw [if_neg (by omega)])); rw [if_pos (by omega), if_pos (by omega)]
    | 7, _, hv => simp at hv; subst hv; (repeat (rw [if_neg (by omega)])); rw [if_pos (by omega), if_pos (by omega)]
    | 8, _, hv => simp at hv; subst hv; (repeat (rw [if_neg (by omega)])); rw [if_pos (by omega), if_pos (by omega)]
    | 9, _, hv => simp at hv; subst hv; rw [if_pos (by omega), if_pos (by omega)]

/-- The matrix while it grows: its header block behind w3, each column that is made in a block of its own. -/
def MtAt (w3 wr : World) (R C : Nat) (rows : List (List Gl)) (md : Nat → Bool) (cnt : Nat → Nat) : Prop :=
  Below w3.heap.size w3 wr ∧ ∃ (hs : Array Value) (gs : Nat → Nat), Blk wr w3.heap.size 62 hs ∧ hs.size = C ∧
    (∀ j, j < C → md j = false → hs[j]? = some (.slice none 0 0)) ∧
    (∀ j, j < C → md j = true → hs[j]? = some (.slice (some ⟨gs j, 0, none⟩) R R) ∧ w3.heap.size < gs j ∧ ColIs wr (gs j) R ((colG rows j).take (cnt j))) ∧
    (∀ i j, i < C → j < C → md i = true → md j = true → i ≠ j → gs i ≠ gs j)
theorem MtAt.below {w3 wr w' : World} {R C : Nat} {rows : List (List Gl)} {md : Nat → Bool} {cnt : Nat → Nat} (h : MtAt w3 wr R C rows md cnt) (hb : Below wr.heap.size wr w') : MtAt w3 w' R C rows md cnt := by
  obtain ⟨h0, hs, gs, h1, h2, h3, h4, h5⟩ := h
  exact ⟨h0.trans (hb.mono h0.size), hs, gs, h1.below hb h1.lt, h2, h3, fun j hj hm => ⟨(h4 j hj hm).1, (h4 j hj hm).2.1, (h4 j hj hm).2.2.below hb⟩, h5⟩
theorem MtAt.same {w3 wr : World} {R C : Nat} {rows : List (List Gl)} {md md' : Nat → Bool} {cnt cnt' : Nat → Nat} (h : MtAt w3 wr R C rows md cnt) (hm : ∀ j, j < C → md' j = md j) (hc : ∀ j, j < C → cnt' j = cnt j) : MtAt w3 wr R C rows md' cnt' := by
  obtain ⟨h0, hs, gs, h1, h2, h3, h4, h5⟩ := h
  refine ⟨h0, hs, gs, h1, h2, fun j hj hq => h3 j hj (by rw [← hm j hj]; exact hq), fun j hj hq => ?_, fun i j hi hj hqi hqj => h5 i j hi hj (by rw [← hm i hi]; exact hqi) (by rw [← hm j hj]; exact hqj)⟩
  have := h4 j hj (by rw [← hm j hj]; exact hq)
  rw [hc j hj]; exact this
theorem MtAt.new (w3 : World) (R C : Nat) (rows : List (List Gl)) : MtAt w3 (w3.alloc (.cells (nilsA C) 62)) R C rows (fun _ => false) (fun _ => 0) :=
  ⟨(Below.refl _ _).alloc (Nat.le_refl _) _, nilsA C, fun _ => 0, Blk.new _ _ _, nilsA_size C, fun j hj _ => nilsA_get C j hj, (fun _ _ h => by cases h), (fun _ _ _ _ h => by cases h)⟩
theorem MtAt.lt {w3 wr : World} {R C : Nat} {rows : List (List Gl)} {md : Nat → Bool} {cnt : Nat → Nat} (h : MtAt w3 wr R C rows md cnt) : w3.heap.size < wr.heap.size := by
  obtain ⟨_, hs, gs, h1, _⟩ := h
  exact h1.lt
theorem MtAt.nilAt {w3 wr : World} {R C : Nat} {rows : List (List Gl)} {md : Nat → Bool} {cnt : Nat → Nat} (h : MtAt w3 wr R C rows md cnt) {c : Nat} (hc : c < C) (hm : md c = false) : wr.cell? ⟨w3.heap.size, c, none⟩ = some (.slice none 0 0) ∧ ∀ o, wr.frozen? ⟨w3.heap.size, o, none⟩ = false := by
  obtain ⟨_, hs, gs, h1, _, h3, _⟩ := h
  exact ⟨(h1.cell c).trans (h3 c hc hm), fun o => h1.free o⟩
theorem MtAt.make {w3 wr : World} {R C : Nat} {rows : List (List Gl)} {md : Nat → Bool} {cnt : Nat → Nat} (h : MtAt w3 wr R C rows md cnt) {c : Nat} (hc : c < C) (hm : md c = false) (h0 : cnt c = 0) :
    MtAt w3 ((wr.alloc (.cells (zerosF R) 67)).setCell ⟨w3.heap.size, c, none⟩ (.slice (some ⟨wr.heap.size, 0, none⟩) R R)) R C rows (fun j => md j || j == c) cnt := by
  have hlt := h.lt
  obtain ⟨hb, hs, gs, h1, h2, h3, h4, h5⟩ := h
  have hbl : Below wr.heap.size wr (wr.alloc (.cells (zerosF R) 67)) := (Below.refl _ _).alloc (Nat.le_refl _) _
  refine ⟨(hb.alloc hb.size _).setCell (Nat.le_refl _) _, hs.setIfInBounds c (.slice (some ⟨wr.heap.size, 0, none⟩) R R), fun j => if j = c then wr.heap.size else gs j, (h1.alloc _).put c _, by simpa using h2, ?_, ?_, ?_⟩
  · intro j hj hq
    have hjc : j ≠ c := by rintro rfl; simp at hq
    have hq' : md j = false := by revert hq; simp; intro a _; exact a
    rw [Array.getElem?_setIfInBounds, if_neg (fun h => hjc h.symm)]
    exact h3 j hj hq'
  · intro j hj hq
    by_cases hjc : j = c
    · subst hjc
      simp only [↓reduceIte]
      refine ⟨by rw [Array.getElem?_setIfInBounds, if_pos rfl, if_pos (by rw [h2]; exact hj)], hlt, ?_⟩
      rw [h0, List.take_zero]
      exact (ColIs.new wr R).far (by show wr.heap.size ≠ w3.heap.size; omega) _
    · have hq' : md j = true := by
        revert hq; simp [hjc]
      obtain ⟨k1, k2, k3⟩ := h4 j hj hq'
      simp only [if_neg hjc]
      exact ⟨by rw [Array.getElem?_setIfInBounds, if_neg (fun h => hjc h.symm)]; exact k1, k2, (k3.below hbl).far (by show gs j ≠ w3.heap.size; omega) _⟩
  · intro i j hi hj hqi hqj hij
    have key : ∀ k, k < C → k ≠ c → (fun j => md j || j == c) k = true → gs k < wr.heap.size := by
      intro k hk hkc hq
      have hq' : md k = true := by revert hq; simp [hkc]
      exact (h4 k hk hq').2.2.lt
    by_cases hic : i = c
    · subst hic
      have hji : j ≠ i := fun h => hij h.symm
      simp only [↓reduceIte, if_neg hji]
      have := key j hj hji hqj
      omega
    · by_cases hjc : j = c
      · subst hjc
        simp only [↓reduceIte, if_neg hic]
        have := key i hi hic hqi
        omega
      · simp only [if_neg hic, if_neg hjc]
        exact h5 i j hi hj (by revert hqi; simp [hic]) (by revert hqj; simp [hjc]) hij
theorem MtAt.get {w3 wr : World} {R C : Nat} {rows : List (List Gl)} {md : Nat → Bool} {cnt : Nat → Nat} (h : MtAt w3 wr R C rows md cnt) {c : Nat} (hc : c < C) (hm : md c = true) {r : Nat} (hr : cnt c = r) :
    ∃ g, wr.cell? ⟨w3.heap.size, c, none⟩ = some (.slice (some ⟨g, 0, none⟩) R R) ∧ w3.heap.size < g ∧ g < wr.heap.size ∧ (∀ i, i < R * 10 → ∃ u, wr.cell? ⟨g, i, none⟩ = some u) ∧ (∀ o, wr.frozen? ⟨g, o, none⟩ = false) ∧
      ∀ (x : Gl) (v0 v1 v2 v3 v4 v5 v6 v7 v8 v9 : Value), (colG rows c)[r]? = some x → r < R → x.inn = [v0, v1, v2, v3, v4, v5, v6, v7, v8, v9] →
        MtAt w3 (put10 wr g (r * 10) v0 v1 v2 v3 v4 v5 v6 v7 v8 v9) R C rows md (fun j => if j = c then r + 1 else cnt j) := by
  subst hr
  obtain ⟨hb, hs, gs, h1, h2, h3, h4, h5⟩ := h
  obtain ⟨k1, k2, k3⟩ := h4 c hc hm
  have k3' := k3
  obtain ⟨cs, b1, b2, b3⟩ := k3'
  refine ⟨gs c, (h1.cell c).trans k1, k2, b1.lt, fun i hi => ⟨_, (b1.cell i).trans (Array.getElem?_eq_getElem (by rw [b2]; exact hi))⟩, fun o => b1.free o, ?_⟩
  intro x v0 v1 v2 v3 v4 v5 v6 v7 v8 v9 hx hlt hv
  have hlen : ((colG rows c).take (cnt c)).length = cnt c := by
    rw [List.length_take]
    have := (List.getElem?_eq_some_iff.1 hx).1
    omega
  refine ⟨below_put10 hb (Nat.le_of_lt k2) _ _ _ _ _ _ _ _ _ _ _, hs, gs, h1.far10 (by omega) _ _ _ _ _ _ _ _ _ _ _, h2, h3, ?_, h5⟩
  intro j hj hq
  by_cases hjc : j = c
  · subst hjc
    simp only [↓reduceIte]
    refine ⟨k1, k2, ?_⟩
    have := k3.put (by rw [hlen]; exact hlt) x v0 v1 v2 v3 v4 v5 v6 v7 v8 v9 hv
    rw [hlen] at this
    rw [List.take_add_one, hx]
    exact this
  · obtain ⟨q1, q2, q3⟩ := h4 j hj hq
    simp only [if_neg hjc]
    exact ⟨q1, q2, q3.far10 (h5 j c hj hc hq hm hjc) _ _ _ _ _ _ _ _ _ _ _⟩
/-- The matrix when it is full. -/
theorem MtAt.rows {w3 wr : World} {R C : Nat} {rows : List (List Gl)} {md : Nat → Bool} {cnt : Nat → Nat} (h : MtAt w3 wr R C rows md cnt) (hm : ∀ j, j < C → md j = true) (hc : ∀ j, j < C → cnt j = R) (hR : rows.length = R) (hR0 : 0 < R) (hC0 : 0 < C) :
    RowsIs 10 wr (New w3.heap.size wr) (some ⟨w3.heap.size, 0, none⟩) C ((trg rows C).map inns) := by
  have hlt := h.lt
  obtain ⟨hb, hs, gs, h1, h2, h3, h4, h5⟩ := h
  have hl : ((trg rows C).map inns).length = C := by unfold trg; rw [List.length_map, List.length_map, List.length_range]
  refine ⟨by intro h; rw [h] at hl; simp at hl; omega, hl.symm, w3.heap.size, 0, rfl, ⟨Nat.le_refl _, hlt⟩, ?_⟩
  intro i r hi
  have hiC : i < C := by rw [← hl]; exact (List.getElem?_eq_some_iff.1 hi).1
  have hr : r = inns (colG rows i) := by
    unfold trg at hi
    rw [List.getElem?_map, List.getElem?_map, List.getElem?_range hiC] at hi
    simpa using hi.symm
  subst hr
  obtain ⟨k1, k2, cs, b1, b2, b3⟩ := h4 i hiC (hm i hiC)
  rw [hc i hiC, List.take_of_length_le (by rw [colG_len, hR]; exact Nat.le_refl _)] at b3
  have hlen : (inns (colG rows i)).length = R := by unfold inns; rw [List.length_map, colG_len, hR]
  refine ⟨_, by rw [Nat.zero_add]; exact (h1.cell i).trans k1, by intro h; rw [h] at hlen; simp at hlen; omega, gs i, 0, R, by rw [hlen], ⟨Nat.le_of_lt k2, b1.lt⟩, ?_⟩
  intro q c hq
  obtain ⟨x, hx, rfl⟩ : ∃ x, (colG rows i)[q]? = some x ∧ c = x.inn := by
    unfold inns at hq
    rw [List.getElem?_map] at hq
    cases hx : (colG rows i)[q]? with
    | none => rw [hx] at hq; cases hq
    | some x => rw [hx] at hq; exact ⟨x, rfl, by simpa using hq.symm⟩
  refine ⟨inn_len x, fun j v hj => ?_⟩
  rw [Nat.zero_add]
  exact (b1.cell (q * 10 + j)).trans (b3 q x hx j v hj)

/-- The package's own matrix of values, as a function gives it back. -/
def FMx (A : Option Addr) (n c : Nat) : Value := .agg #[.string ⟨#[]⟩, .float .f64 0, .string ⟨#[]⟩, .slice none 0 0, .slice A n c, .bool false, .string ⟨#[]⟩, .int .u8 4, .pointer none, .pointer none]
/-- What a function leaves whose answer is a matrix. -/
def MatPost (rows : List (List Gl)) (w : World) (e : Ending) (w' : World) : Prop :=
  ∃ g cap, e = .returned (FMx (some ⟨g, 0, none⟩) rows.length cap) ∧ RowsIs 10 w' (New w.heap.size w') (some ⟨g, 0, none⟩) rows.length (rows.map inns) ∧ Below w.heap.size w w'
theorem MatPost.mk10 {rows : List (List Gl)} {w w5 : World} {g n cap : Nat} (hn : rows.length = n) (hr : RowsIs 10 w5 (New (w.heap.size + 1) w5) (some ⟨g, 0, none⟩) n (rows.map inns)) (hb : Below w.heap.size w w5) (v0 v1 v2 v3 v4 v5 v6 v7 v8 v9 : Value) :
    MatPost rows w (.returned (FMx (some ⟨g, 0, none⟩) n cap)) ((((((((((w5.setCell ⟨w.heap.size, 0, none⟩ v0).setCell ⟨w.heap.size, 1, none⟩ v1).setCell ⟨w.heap.size, 2, none⟩ v2).setCell ⟨w.heap.size, 3, none⟩ v3).setCell ⟨w.heap.size, 4, none⟩ v4).setCell ⟨w.heap.size, 5, none⟩ v5).setCell ⟨w.heap.size, 6, none⟩ v6).setCell ⟨w.heap.size, 7, none⟩ v7).setCell ⟨w.heap.size, 8, none⟩ v8).setCell ⟨w.heap.size, 9, none⟩ v9) := by
  subst hn
  have hk : ∀ q, New (w.heap.size + 1) w5 q → q ≠ w.heap.size := fun q hq => by have := hq.1; omega
  refine ⟨g, cap, rfl, ?_, below10 hb (Nat.le_refl _)⟩
  exact (hr.keep (((((((((((Keep.refl _ _).set hk _).set hk _).set hk _).set hk _).set hk _).set hk _).set hk _).set hk _).set hk _).set hk _)).more fun q hq => ⟨by have := hq.1; omega, by simp only [size_setCell]; exact hq.2⟩

end Go.Proofs.YtdpkjhohklfieaaGreat
