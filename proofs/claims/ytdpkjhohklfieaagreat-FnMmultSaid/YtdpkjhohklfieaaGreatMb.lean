/- MMULT: XNn, XMq, XFm, XDf, XMl. Put together by merge.py. -/
import Derived.Test.YtdpkjhohklfieaaGreatDm
import Derived.Test.YtdpkjhohklfieaaGreatMa
import Derived.Test.YtdpkjhohklfieaaGreatTm
import Derived.Deep.RegionHeld3
import Derived.Test.YtdpkjhohklfieaaGreatTp
import Derived.BigQuiet
import Derived.Deep.QuietTactic
set_option linter.unusedSimpArgs false
set_option linter.unusedVariables false
namespace Go.Proofs.YtdpkjhohklfieaaGreat

/- newNumberMatrix of a range of numbers: rows of floats. -/
section
open Go.RowKit
set_option maxRecDepth 100000
set_option maxHeartbeats 1000000

def fls (r : List Nat) : List (List Value) := r.map fun x => [.float .f64 x]
def numOf (g : Gl) : Nat := Fl.clean g.x
def flm (rows : List (List Gl)) : List (List Nat) := rows.map fun r => r.map numOf
theorem inn_num {g : Gl} (h : g.k = 1) : g.inn = [.string ⟨#[]⟩, .float .f64 (numOf g), .string ⟨#[]⟩, .slice none 0 0, .slice none 0 0, .bool false, .string ⟨#[]⟩, .int .u8 1, .pointer none, .pointer none] := by
  unfold Gl.inn numOf; rw [if_pos h]
theorem flm_snoc (rows : List (List Gl)) (k : Nat) (r : List Gl) (h : rows[k]? = some r) : flm (rows.take (k + 1)) = flm (rows.take k) ++ [r.map numOf] := by
  unfold flm
  rw [List.take_add_one, h]
  simp

def NmAt (w wr : World) (y : Value) (Hs : List Value) (done : List (List Nat)) : Prop :=
  Zero10 wr (w.heap.size + 1) ∧ Below w.heap.size w wr ∧ w.heap.size + 2 ≤ wr.heap.size ∧ (KRow 1).Many wr (w.heap.size + 2) 95 1 y Hs (done.map fls)
def NmIn (w wq : World) (y : Value) (Hs : List Value) (done : List (List Nat)) (gk n : Nat) (L : List Nat) (q : Nat) : Prop :=
  Zero10 wq (w.heap.size + 1) ∧ Below w.heap.size w wq ∧ w.heap.size + 2 ≤ wq.heap.size ∧ Owns wq (w.heap.size + 2) 95 1 y ((Hs ++ [Value.slice (some ⟨gk, 0, none⟩) n n]).map fun h => [h]) ∧
    (KRow 1).all wq (fun k => NewBut (w.heap.size + 2) wq y k ∧ k ≠ gk) Hs (done.map fls) ∧ (y.ownBlock = none ∨ y.ownBlock ≠ some gk) ∧ w.heap.size + 2 ≤ gk ∧
    ∃ cs : Array Value, cs.size = n ∧ Blk wq gk 36 cs ∧ ∀ (i x : Nat), i < q → L[i]? = some x → cs[i]? = some (.float .f64 x)
theorem NmIn.below {w wq X : World} {y : Value} {Hs : List Value} {done : List (List Nat)} {gk n q : Nat} {L : List Nat} (h : NmIn w wq y Hs done gk n L q) (hb : Below wq.heap.size wq X) : NmIn w X y Hs done gk n L q := by
  obtain ⟨h1, h2, h3, h4, h5, h6, h7, cs, h8, h9, h10⟩ := h
  exact ⟨h1.below hb, h2.trans (hb.mono h2.size), Nat.le_trans h3 hb.size, h4.below hb, (h5.keep (Keep.below hb fun k hk => hk.1.2.1)).more fun k hk => ⟨⟨hk.1.1, Nat.lt_of_lt_of_le hk.1.2.1 hb.size, hk.1.2.2⟩, hk.2⟩, h6, h7, cs, h8, h9.below hb h9.lt, h10⟩
theorem NmIn.put {w wq : World} {y : Value} {Hs : List Value} {done : List (List Nat)} {gk n q : Nat} {L : List Nat} (h : NmIn w wq y Hs done gk n L q) (hq : q < n) (x : Nat) (hx : L[q]? = some x) : NmIn w (wq.setCell ⟨gk, q, none⟩ (.float .f64 x)) y Hs done gk n L (q + 1) := by
  obtain ⟨h1, h2, h3, h4, h5, h6, h7, cs, h8, h9, h10⟩ := h
  refine ⟨Blk.far h1 (by show w.heap.size + 1 ≠ gk; omega) _, h2.setCell (by show w.heap.size ≤ gk; omega) _, by rw [size_setCell]; exact h3, h4.put h6 _, (h5.keep fun k hk => Below.heap_setCell wq _ _ k hk.2).more fun k hk => ⟨⟨hk.1.1, by rw [size_setCell]; exact hk.1.2.1, hk.1.2.2⟩, hk.2⟩, h6, h7, _, by simpa using h8, h9.put q _, ?_⟩
  intro i u hi hu
  rw [Array.getElem?_setIfInBounds]
  by_cases hiq : q = i
  · subst hiq
    rw [hx] at hu
    injection hu with hu
    subst hu
    rw [if_pos rfl, if_pos (by rw [h8]; exact hq)]
  · rw [if_neg hiq]
    exact h10 i u (by omega) hu
theorem NmIn.done {w wq : World} {y : Value} {Hs : List Value} {done : List (List Nat)} {gk n : Nat} {L : List Nat} (h : NmIn w wq y Hs done gk n L n) (hL : L.length = n) (hn : 0 < n) : NmAt w wq y (Hs ++ [.slice (some ⟨gk, 0, none⟩) n n]) (done ++ [L]) := by
  obtain ⟨h1, h2, h3, h4, h5, h6, h7, cs, h8, h9, h10⟩ := h
  refine ⟨h1, h2, h3, h4, ?_⟩
  rw [List.map_append]
  refine (h5.more fun k hk => hk.1).snoc (g := .slice (some ⟨gk, 0, none⟩) n n) (m := fls L) ?_
  have hl : (fls L).length = n := by unfold fls; rw [List.length_map, hL]
  refine ⟨by intro hh; rw [hh] at hl; simp at hl; omega, gk, 0, n, by rw [hl], ⟨h7, h9.lt, h6⟩, ?_⟩
  intro i c hi
  unfold fls at hi
  rw [List.getElem?_map] at hi
  cases hx : L[i]? with
  | none => rw [hx] at hi; cases hi
  | some x =>
    rw [hx] at hi
    have hc : [Value.float .f64 x] = c := by simpa using hi
    subst hc
    refine ⟨rfl, fun j v hj => ?_⟩
    match j, hj with
    | 0, hj =>
      simp at hj
      subst hj
      have hin : i < n := by rw [← hL]; exact (List.getElem?_eq_some_iff.1 hx).1
      have := (h9.cell i).trans (h10 i x hin hx)
      simpa using this
    | j + 1, hj => simp at hj
theorem NmIn.start {w wr w2 : World} {y v' : Value} {Hs : List Value} {done : List (List Nat)} {n : Nat} {L : List Nat} {BOX : Obj} (h : NmAt w wr y Hs done)
    (hown2 : Owns w2 (w.heap.size + 2) 95 1 v' ((Hs.map fun h => [h]) ++ [[.slice (some ⟨wr.heap.size, 0, none⟩) n n]])) (hg2 : ((wr.alloc (.cells (zerosA n) 36)).alloc BOX).grownBy w2 y.ownBlock)
    (hat : v'.ownBlock = y.ownBlock ∨ v'.ownBlock = some (wr.heap.size + 2)) (hbe : Below (w.heap.size + 2) (wr.alloc (.cells (zerosA n) 36)) w2) : NmIn w w2 v' Hs done wr.heap.size n L 0 := by
  obtain ⟨h1, h2, h3, h4, h5⟩ := h
  have hbl := h4.block_lt
  have hsz := hg2.size
  simp only [World.size_alloc] at hsz
  refine ⟨Blk.below (Zero10.below h1 ((Below.refl _ _).alloc (Nat.le_refl _) _)) hbe (by omega), (h2.alloc h2.size _).trans (hbe.mono (by omega)), by omega, by rw [List.map_append]; exact hown2, ?_, ?_, h3, zerosA n, zerosA_size n, ?_, fun i x hi => absurd hi (Nat.not_lt_zero i)⟩
  · refine (h5.keep (w' := w2) fun k hk => ?_).more fun k hk => ⟨⟨hk.1, by have := hk.2.1; omega, ?_⟩, by have := hk.2.1; omega⟩
    · have hlt := hk.2.1
      refine (hg2.block k (by simp only [World.size_alloc]; omega) ?_).trans ?_
      · rcases hk.2.2 with h' | h'
        · rw [h']; simp
        · exact fun heq => h' heq.symm
      · exact (Below.heap_alloc _ _ k (by rw [World.size_alloc]; omega)).trans (Below.heap_alloc _ _ k hlt)
    · rcases hat with h' | h'
      · rw [h']; exact hk.2.2
      · right; rw [h']; intro hh; injection hh with hh; have := hk.2.1; omega
  · rcases hat with h' | h'
    · rw [h']
      rcases hbl with hn | ⟨q, hq, _, hlt⟩
      · exact .inl hn
      · right; rw [hq]; intro hh; injection hh with hh; omega
    · right; rw [h']; intro hh; injection hh with hh; omega
  · have hBZ : Blk (wr.alloc (.cells (zerosA n) 36)) wr.heap.size 36 (zerosA n) := Blk.new _ _ _
    refine (hg2.block wr.heap.size (by simp only [World.size_alloc]; omega) ?_).trans (Blk.alloc hBZ _)
    rcases hbl with hn | ⟨q, hq, _, hlt⟩
    · rw [hn]; simp
    · rw [hq]; intro hh; injection hh with hh; omega

/-- What is left: the rows of floats, and no error. -/
def FloatsPost (rows : List (List Nat)) (w : World) (e : Ending) (w' : World) : Prop :=
  ∃ g cap, e = .returned (.tuple #[.slice (some ⟨g, 0, none⟩) rows.length cap, (.agg #[.string ⟨#[]⟩, .float .f64 0, .string ⟨#[]⟩, .slice none 0 0, .slice none 0 0, .bool false, .string ⟨#[]⟩, .int .u8 0, .pointer none, .pointer none])]) ∧ RowsIs 1 w' (New w.heap.size w') (some ⟨g, 0, none⟩) rows.length (rows.map fls) ∧ Below w.heap.size w w'

set_option maxHeartbeats 8000000 in
theorem nm_any (A : Option Addr) (n c P Q C : Nat) (rows : List (List Gl)) (w : World) (hr : RowsIs 10 w (· < w.heap.size) A n (rows.map inns)) (hn : n ≤ 1000) (hC0 : 0 < C) (hC1 : C ≤ 1000) (hC : ∀ r ∈ rows, r.length = C) (hk1 : ∀ r ∈ rows, ∀ g ∈ r, g.k = 1) :
    Calls Tryz.prog 52 #[FMat A n c P Q, .bool false] w (FloatsPost (flm rows) w) := by
  have hne : rows ≠ [] := by intro h; apply hr.1; rw [h]; rfl
  obtain ⟨_, hm0, b, off, rfl, hb, hrow⟩ := hr
  have hm : n = rows.length := by rw [hm0]; exact List.length_map _
  clear hm0
  have z0 : Zero10 ((w.alloc (.cells #[.string ⟨#[]⟩, .float .f64 0, .string ⟨#[]⟩, .slice none 0 0, .slice (some ⟨b, off, none⟩) n c, .bool false, .string ⟨#[]⟩, .int .u8 4, .pointer (some ⟨P, 0, none⟩), .pointer (some ⟨Q, 0, none⟩)] 67)).alloc (.cells #[.string ⟨#[]⟩, .float .f64 0, .string ⟨#[]⟩, .slice none 0 0, .slice none 0 0, .bool false, .string ⟨#[]⟩, .int .u8 0, .pointer none, .pointer none] 67)) (w.heap.size + 1) := by
    have := Zero10.new (w.alloc (.cells #[.string ⟨#[]⟩, .float .f64 0, .string ⟨#[]⟩, .slice none 0 0, .slice (some ⟨b, off, none⟩) n c, .bool false, .string ⟨#[]⟩, .int .u8 4, .pointer (some ⟨P, 0, none⟩), .pointer (some ⟨Q, 0, none⟩)] 67))
    simpa using this
  have hbA : Below w.heap.size w ((w.alloc (.cells #[.string ⟨#[]⟩, .float .f64 0, .string ⟨#[]⟩, .slice none 0 0, .slice (some ⟨b, off, none⟩) n c, .bool false, .string ⟨#[]⟩, .int .u8 4, .pointer (some ⟨P, 0, none⟩), .pointer (some ⟨Q, 0, none⟩)] 67)).alloc (.cells #[.string ⟨#[]⟩, .float .f64 0, .string ⟨#[]⟩, .slice none 0 0, .slice none 0 0, .bool false, .string ⟨#[]⟩, .int .u8 0, .pointer none, .pointer none] 67)) := ((Below.refl _ _).alloc (Nat.le_refl _) _).alloc (by simp) _
  have hAt : NmAt w ((w.alloc (.cells #[.string ⟨#[]⟩, .float .f64 0, .string ⟨#[]⟩, .slice none 0 0, .slice (some ⟨b, off, none⟩) n c, .bool false, .string ⟨#[]⟩, .int .u8 4, .pointer (some ⟨P, 0, none⟩), .pointer (some ⟨Q, 0, none⟩)] 67)).alloc (.cells #[.string ⟨#[]⟩, .float .f64 0, .string ⟨#[]⟩, .slice none 0 0, .slice none 0 0, .bool false, .string ⟨#[]⟩, .int .u8 0, .pointer none, .pointer none] 67)) (.slice none 0 0) [] (flm (rows.take 0)) := ⟨z0, hbA, by simp, Kind.Many.nil _ _ _ _⟩
  have HAT := Lib.hid hAt
  have HROW := Lib.hid hrow
  have HM := Lib.hid (And.intro hm (And.intro hC (And.intro hk1 hne)))
  have hmk := make_row C hC1
  clear hm hrow z0 hbA hAt hC hk1 hne
  unfold FMat
  go_enter Tryz.func52, Tryz.ntmps52
  go_wp2_with fail
  go_loopw [4, 17] (fun v i wr => ∃ (k : Nat) (y : Value) (Hs : List Value), k ≤ n ∧ i = .int .i64 k ∧ y = v ∧ NmAt w wr y Hs (flm (rows.take k))) (fun _ i _ => n - (intOf i).toNat)
  case atStart => exact ⟨0, _, [], Nat.zero_le _, rfl, rfl, HAT.out⟩
  case round =>
    obtain ⟨k, y, Hs, hk, rfl, rfl, hAt⟩ := hrel
    have HA := Lib.hid hAt
    clear hAt HAT
    by_cases hlt : k < n
    · obtain ⟨r, hr⟩ : ∃ r, rows[k]? = some r := ⟨_, List.getElem?_eq_getElem (by rw [← HM.out.1]; exact hlt)⟩
      obtain ⟨hh, hc, _, b2, off2, c2, rfl, hb2, hrow2⟩ := HROW.out k (inns r) (by rw [List.getElem?_map, hr]; rfl)
      have hrl : r.length = C := HM.out.2.1 r (List.mem_of_getElem? hr)
      have hl : (inns r).length = C := by rw [← hrl]; exact List.length_map _
      rw [hl] at hc
      have hc1 : wr.cell? ⟨b, off + k, none⟩ = some (.slice (some ⟨b2, off2, none⟩) C c2) := (HA.out.2.1.cell (p := ⟨b, off + k, none⟩) hb).trans hc
      have hsz := HA.out.2.2.1
      have hHl : Hs.length = k := by
        have := HA.out.2.2.2.len
        rw [this, List.length_map]; unfold flm; rw [List.length_map, List.length_take]; have := HM.out.1; omega
      have hown1 : Owns (wr.alloc (.cells (zerosA C) 36)) (w.heap.size + 2) 95 1 y (Hs.map fun h => [h]) := HA.out.2.2.2.1.below ((Below.refl _ _).alloc (Nat.le_refl _) _)
      have hlk : (Hs.map fun h => [h]).length ≤ 1000000 := by rw [List.length_map, hHl]; omega
      have HR2 := Lib.hid (And.intro hr (And.intro hrl (And.intro hb2 hrow2)))
      have HHL := Lib.hid hHl
      have hb2' : b2 < w.heap.size := hb2
      clear hr hc hl hrow2 hrl hb2 hHl
      go_wp2_with (at_builtin; refine wpList_append_box (wr.alloc (.cells (zerosA C) 36)) rfl (.tmp 30) (.tmp 34) 92 rfl (w.heap.size + 2) 95 _ 1 24 Tryz.underlying92 infoFlts rfl (by decide) y (Hs.map fun h => [h]) (by rfl) (by exact hown1) #[.slice (some ⟨wr.heap.size, 0, none⟩) C C] rfl 1 _ (by rfl) (by simp) (by exact one_slice _ _ _) hlk (by decide) (by simp; omega) ?_; intro v' w2 hown2 hg2 hat2 hbe2)
      have hin := NmIn.start HA.out (L := r.map numOf) hown2 hg2 (by simpa using hat2) hbe2
      have HIN := Lib.hid hin
      obtain ⟨gg, capg, hv', _, hggl, _, _, _⟩ := hown2.row (by simp)
      have hlen2 : ((Hs.map fun h => [h]) ++ [#[Value.slice (some ⟨wr.heap.size, 0, none⟩) C C].toList]).length = k + 1 := by simp [HHL.out]
      rw [hlen2] at hv'
      obtain ⟨gk, hgk⟩ : ∃ gk, gk = wr.heap.size := ⟨_, rfl⟩
      rw [← hgk] at HIN
      clear hin hown2 hg2 hat2 hbe2 hlen2 hc1 hown1 hlk HA
      subst hv'
      go_wp2_with fail
      rw [← hgk]
      clear hgk
      go_loopw [38] (fun i wq => ∃ q : Nat, q ≤ C ∧ i = .int .i64 q ∧ NmIn w wq (.slice (some ⟨gg, 0, none⟩) (k + 1) capg) Hs (flm (rows.take k)) gk C (r.map numOf) q) (fun i _ => C - (intOf i).toNat)
      case atStart => exact ⟨0, Nat.zero_le _, rfl, HIN.out⟩
      case round =>
        obtain ⟨q, hq, rfl, hin⟩ := hrel
        have HI := Lib.hid hin
        clear hin
        by_cases hqn : q < C
        · obtain ⟨g, hg⟩ : ∃ g, r[q]? = some g := ⟨_, List.getElem?_eq_getElem (by rw [HR2.out.2.1]; exact hqn)⟩
          have hgk1 : g.k = 1 := HM.out.2.2.1 r (List.mem_of_getElem? HR2.out.1) g (List.mem_of_getElem? hg)
          have hR := (HR2.out.2.2.2.below HI.out.2.1 hb2') q g.inn (by show (r.map Gl.inn)[q]? = _; rw [List.getElem?_map, hg]; rfl)
          rw [inn_num hgk1] at hR
          have hlt2 : b2 < wr.heap.size := Nat.lt_of_lt_of_le hb2' HI.out.2.1.size
          have c0 : wr.cell? ⟨b2, off2 + q * 10, none⟩ = some (.string ⟨#[]⟩) := hR.2 0 _ rfl
          have c1 : wr.cell? ⟨b2, off2 + q * 10 + 1, none⟩ = some (.float .f64 (numOf g)) := hR.2 1 _ rfl
          have c2 : wr.cell? ⟨b2, off2 + q * 10 + 2, none⟩ = some (.string ⟨#[]⟩) := hR.2 2 _ rfl
          have c3 : wr.cell? ⟨b2, off2 + q * 10 + 3, none⟩ = some (.slice none 0 0) := hR.2 3 _ rfl
          have c4 : wr.cell? ⟨b2, off2 + q * 10 + 4, none⟩ = some (.slice none 0 0) := hR.2 4 _ rfl
          have c5 : wr.cell? ⟨b2, off2 + q * 10 + 5, none⟩ = some (.bool false) := hR.2 5 _ rfl
          have c6 : wr.cell? ⟨b2, off2 + q * 10 + 6, none⟩ = some (.string ⟨#[]⟩) := hR.2 6 _ rfl
          have c7 : wr.cell? ⟨b2, off2 + q * 10 + 7, none⟩ = some (.int .u8 1) := hR.2 7 _ rfl
          have c8 : wr.cell? ⟨b2, off2 + q * 10 + 8, none⟩ = some (.pointer none) := hR.2 8 _ rfl
          have c9 : wr.cell? ⟨b2, off2 + q * 10 + 9, none⟩ = some (.pointer none) := hR.2 9 _ rfl
          have HG := Lib.hid (show (r.map numOf)[q]? = some (numOf g) by rw [List.getElem?_map, hg]; rfl)
          clear hg hR hgk1
          go_wp2_with fail
          obtain ⟨X, hX⟩ : ∃ X, X = wr.alloc (.cells #[.string ⟨#[]⟩, .float .f64 (numOf g), .string ⟨#[]⟩, .slice none 0 0, .slice none 0 0, .bool false, .string ⟨#[]⟩, .int .u8 1, .pointer none, .pointer none] 67) := ⟨_, rfl⟩
          have hbX : Below wr.heap.size wr X := by rw [hX]; exact (Below.refl _ _).alloc (Nat.le_refl _) _
          have d1 : X.cell? ⟨wr.heap.size, 1, none⟩ = some (.float .f64 (numOf g)) := by rw [hX]; simp [go_sem]
          have HI2 := Lib.hid (HI.out.below hbX)
          have d2 := (HI2.out.2.2.2.1.cellAt k (.slice (some ⟨gk, 0, none⟩) C C) (by rw [List.getElem?_map, List.getElem?_append_right (by rw [HHL.out]; exact Nat.le_refl _), HHL.out]; simp)).1
          obtain ⟨cs, hcs, hblk, -⟩ := HI2.out.2.2.2.2.2.2.2
          obtain ⟨u, d3⟩ : ∃ u, X.cell? ⟨gk, q, none⟩ = some u := ⟨_, (hblk.cell q).trans (Array.getElem?_eq_getElem (by rw [hcs]; exact hqn))⟩
          have d4 : X.frozen? ⟨gk, q, none⟩ = false := hblk.free q
          rw [← hX]
          clear hX hblk hcs c0 c1 c2 c3 c4 c5 c6 c7 c8 c9
          go_region
          go_wp2_with fail
          go_roundw
          case rel => exact ⟨q + 1, by omega, by go_num, (HI2.out.put hqn _ HG.out).below (Below.drew (Below.refl _ _))⟩
          case measure => simp [intOf]; omega
        · obtain rfl : C = q := by omega
          have hd := HI.out.done (by rw [List.length_map, HR2.out.2.1]) hC0
          rw [← flm_snoc rows k r HR2.out.1] at hd
          have HD := Lib.hid hd
          clear hd
          go_wp2_with fail
          go_roundw
          case rel => exact ⟨k + 1, _, _, by omega, by go_num, rfl, HD.out⟩
          case measure => simp [intOf]; omega
    · obtain rfl : n = k := by omega
      have hm := HA.out
      rw [List.take_of_length_le (by rw [HM.out.1]; exact Nat.le_refl _)] at hm
      have hfl : (flm rows).length = n := by unfold flm; rw [List.length_map, HM.out.1]
      have hfn : (flm rows).map fls ≠ [] := by
        intro h
        have h0 : ((flm rows).map fls).length = 0 := by rw [h]; rfl
        rw [List.length_map, hfl, HM.out.1] at h0
        exact HM.out.2.2.2 (List.length_eq_zero_iff.1 h0)
      obtain ⟨g, cap, rfl, hg, hrs⟩ := rows_out hm.2.2.2 hfn
      obtain ⟨zl, z0, z1, z2, z3, z4, z5, z6, z7, z8, z9, zf⟩ := Zero10.facts HA.out.1
      have HS := Lib.hid (And.intro hrs HA.out.2.1)
      have hle : ((flm rows).map fls).length = n := by rw [List.length_map, hfl]
      rw [hle] at HS ⊢
      have HFL := Lib.hid hfl
      clear hm hrs hle hg hfl hfn
      go_wp2
      exact bodyPost_ret (v := (.tuple #[.slice (some ⟨g, 0, none⟩) n cap, (.agg #[.string ⟨#[]⟩, .float .f64 0, .string ⟨#[]⟩, .slice none 0 0, .slice none 0 0, .bool false, .string ⟨#[]⟩, .int .u8 0, .pointer none, .pointer none])])) (by simp [results, Tryz.results52, go_sem, zl, z0, z1, z2, z3, z4, z5, z6, z7, z8, z9, zf]) rfl ⟨g, cap, by rw [HFL.out], by rw [HFL.out]; exact HS.out.1.more (fun q hq => ⟨by have := hq.1; omega, hq.2⟩), HS.out.2⟩
end

/- The product while it grows: its rows in a slice of one's own, the row at work in another. -/
section
open Go.RowKit
set_option maxRecDepth 100000
set_option maxHeartbeats 1000000

def ones (xs : List Value) : List (List Value) := xs.map fun u => [u]
theorem ones_flatten (xs : List Value) : (ones xs).flatten = xs := by
  unfold ones
  induction xs with
  | nil => rfl
  | cons x xs ih => rw [List.map_cons, List.flatten_cons, ih]; rfl
theorem ones_len (xs : List Value) : (ones xs).length = xs.length := by unfold ones; rw [List.length_map]
theorem fls_ones (L : List Nat) : fls L = ones (L.map fun x => .float .f64 x) := by unfold fls ones; rw [List.map_map]; rfl
theorem ones_append (xs ys : List Value) : ones (xs ++ ys) = ones xs ++ ones ys := by unfold ones; rw [List.map_append]
theorem ones_mem (xs : List Value) : ∀ c ∈ ones xs, c.length = 1 := by
  intro c hc
  obtain ⟨u, _, rfl⟩ := List.mem_map.1 hc
  rfl
/-- A cell of a row of one's own is written. -/
theorem Owns.set1 {w : World} {base : Nat} {e : TypeId} {g n cap : Nat} {xs : List Value} (h : Owns w base e 1 (.slice (some ⟨g, 0, none⟩) n cap) (ones xs)) (i : Nat) (u : Value) : Owns (w.setCell ⟨g, i, none⟩ u) base e 1 (.slice (some ⟨g, 0, none⟩) n cap) (ones (xs.set i u)) := by
  have h1 := h.1
  rw [ones_len, ones_flatten] at h1
  have hn : n = xs.length := by
    rcases h1.2 with ⟨h', _⟩ | ⟨g', cap', cur, h', _⟩
    · cases h'
    · injection h'
  refine ⟨?_, ones_mem _⟩
  rw [ones_len, ones_flatten, List.length_set]
  rw [← hn] at h1 ⊢
  exact (h1.stored i u).1
theorem Owns.free1 {w : World} {base : Nat} {e : TypeId} {g n cap : Nat} {xs : List Value} (h : Owns w base e 1 (.slice (some ⟨g, 0, none⟩) n cap) (ones xs)) (i : Nat) : w.frozen? ⟨g, i, none⟩ = false := by
  have h1 := h.1
  rw [ones_len, ones_flatten] at h1
  have hn : n = xs.length := by
    rcases h1.2 with ⟨h', _⟩ | ⟨g', cap', cur, h', _⟩
    · cases h'
    · injection h'
  rw [← hn] at h1
  exact h1.frozenAt i
theorem set_last (xs : List Value) (a b : Value) : (xs ++ [a]).set xs.length b = xs ++ [b] := by
  rw [List.set_append_right _ _ (Nat.le_refl _), Nat.sub_self]; rfl

def Apart (y z : Value) : Prop := ∀ k, y.ownBlock = some k → z.ownBlock ≠ some k
def MmAt (wS wr : World) (y : Value) (Hs : List Value) (done : List (List Nat)) : Prop := Below wS.heap.size wS wr ∧ (KRow 1).Many wr wS.heap.size 95 1 y Hs (done.map fls)
def MmJ (wS wq : World) (y z hc : Value) (Hs : List Value) (done : List (List Nat)) (L : List Nat) : Prop :=
  Below wS.heap.size wS wq ∧ Owns wq wS.heap.size 95 1 y (ones (Hs ++ [hc])) ∧ (KRow 1).all wq (fun k => NewBut wS.heap.size wq y k ∧ NewBut wS.heap.size wq z k) Hs (done.map fls) ∧ Owns wq wS.heap.size 36 1 z (fls L) ∧ Apart y z
theorem MmJ.below {wS wq X : World} {y z hc : Value} {Hs : List Value} {done : List (List Nat)} {L : List Nat} (h : MmJ wS wq y z hc Hs done L) (hb : Below wq.heap.size wq X) : MmJ wS X y z hc Hs done L := by
  obtain ⟨h1, h2, h3, h4, h5⟩ := h
  exact ⟨h1.trans (hb.mono h1.size), h2.below hb, (h3.keep (Keep.below hb fun k hk => hk.1.2.1)).more fun k hk => ⟨⟨hk.1.1, Nat.lt_of_lt_of_le hk.1.2.1 hb.size, hk.1.2.2⟩, ⟨hk.2.1, Nat.lt_of_lt_of_le hk.2.2.1 hb.size, hk.2.2.2⟩⟩, h4.below hb, h5⟩
theorem ne_own {v : Value} {k : Nat} (h : v.ownBlock = none ∨ v.ownBlock ≠ some k) : some k ≠ v.ownBlock := by
  rcases h with h | h
  · rw [h]; simp
  · exact fun heq => h heq.symm
theorem own_lt {w : World} {base : Nat} {e : TypeId} {size : Nat} {v : Value} {cs : List (List Value)} (h : Owns w base e size v cs) {k : Nat} (hk : w.heap.size ≤ k) : v.ownBlock = none ∨ v.ownBlock ≠ some k := by
  rcases h.block_lt with hn | ⟨q, hq, _, hlt⟩
  · exact .inl hn
  · right; rw [hq]; intro hh; injection hh with hh; omega
/-- A new row begins. -/
theorem MmJ.start {wS wr w2 : World} {y v' hc : Value} {Hs : List Value} {done : List (List Nat)} {BOX E0 : Obj} (h : MmAt wS wr y Hs done)
    (hown2 : Owns w2 wS.heap.size 95 1 v' (ones Hs ++ [[hc]])) (hg2 : ((wr.alloc E0).alloc BOX).grownBy w2 y.ownBlock)
    (hat : v'.ownBlock = y.ownBlock ∨ v'.ownBlock = some (wr.heap.size + 2)) (hbe : Below wS.heap.size (wr.alloc E0) w2) :
    MmJ wS (w2.alloc (.cells #[] 36)) v' (.slice (some ⟨w2.heap.size, 0, none⟩) 0 0) hc Hs done [] := by
  obtain ⟨h1, h2, h3⟩ := h
  have hsz := hg2.size
  simp only [World.size_alloc] at hsz
  have hwr := h1.size
  have hb2 : Below w2.heap.size w2 (w2.alloc (.cells #[] 36)) := (Below.refl _ _).alloc (Nat.le_refl _) _
  have hw2 : wS.heap.size ≤ w2.heap.size := by omega
  refine ⟨((h1.alloc hwr _).trans hbe).alloc hw2 _, ?_, ?_, ⟨World.ownsRow_made w2 #[] 0 hw2 (by decide) rfl, by simp [fls]⟩, ?_⟩
  · rw [ones_append]; exact hown2.below hb2
  · refine (h3.keep (w' := w2.alloc (.cells #[] 36)) fun k hk => ?_).more fun k hk => ⟨⟨hk.1, by have := hk.2.1; rw [World.size_alloc]; omega, ?_⟩, hk.1, by have := hk.2.1; rw [World.size_alloc]; omega, ?_⟩
    · have hlt := hk.2.1
      refine (Below.heap_alloc _ _ k (by omega)).trans ((hg2.block k (by simp only [World.size_alloc]; omega) (ne_own hk.2.2)).trans ?_)
      exact (Below.heap_alloc _ _ k (by rw [World.size_alloc]; omega)).trans (Below.heap_alloc _ _ k hlt)
    · rcases hat with h' | h'
      · rw [h']; exact hk.2.2
      · right; rw [h']; intro hh; injection hh with hh; have := hk.2.1; omega
    · right; intro hh; injection hh with hh
      have := hk.2.1
      have hh' : w2.heap.size = k := hh
      omega
  · intro k hk hz
    have hz' : w2.heap.size = k := by injection hz
    rcases hown2.block_lt with hn | ⟨q, hq, _, hlt⟩
    · rw [hn] at hk; cases hk
    · rw [hq] at hk; injection hk with hk; omega
/-- The row at work grows by a nought. -/
theorem MmJ.grow {wS wq w2 : World} {y z z1 hc : Value} {Hs : List Value} {done : List (List Nat)} {L : List Nat} {BOX : Obj} (h : MmJ wS wq y z hc Hs done L)
    (hown2 : Owns w2 wS.heap.size 36 1 z1 (fls L ++ [[.float .f64 0]])) (hg2 : (wq.alloc BOX).grownBy w2 z.ownBlock)
    (hat : z1.ownBlock = z.ownBlock ∨ z1.ownBlock = some (wq.heap.size + 1)) (hbe : Below wS.heap.size wq w2) : MmJ wS w2 y z1 hc Hs done (L ++ [0]) := by
  obtain ⟨h1, h2, h3, h4, h5⟩ := h
  have hsz := hg2.size
  simp only [World.size_alloc] at hsz
  refine ⟨h1.trans hbe, ?_, ?_, by unfold fls at hown2 ⊢; rw [List.map_append]; exact hown2, ?_⟩
  · refine (h2.below ((Below.refl _ _).alloc (Nat.le_refl _) BOX)).grown hg2 ?_
    cases hy : y.ownBlock with
    | none => exact .inl rfl
    | some k => exact .inr fun heq => h5 k hy heq.symm
  · refine (h3.keep (w' := w2) fun k hk => ?_).more fun k hk => ⟨⟨hk.1.1, by have := hk.1.2.1; omega, hk.1.2.2⟩, hk.2.1, by have := hk.2.2.1; omega, ?_⟩
    · have hlt := hk.1.2.1
      exact (hg2.block k (by simp only [World.size_alloc]; omega) (ne_own hk.2.2.2)).trans (Below.heap_alloc _ _ k hlt)
    · rcases hat with h' | h'
      · rw [h']; exact hk.2.2.2
      · right; rw [h']; intro hh; injection hh with hh; have := hk.1.2.1; omega
  · intro k hk
    rcases hat with h' | h'
    · rw [h']; exact h5 k hk
    · rw [h']; intro hh; injection hh with hh
      rcases h2.block_lt with hn | ⟨q, hq, _, hlt⟩
      · rw [hn] at hk; cases hk
      · rw [hq] at hk; injection hk with hk; omega
/-- The nought becomes the sum. -/
theorem MmJ.sum {wS wq : World} {y hc : Value} {b1 n cap : Nat} {Hs : List Value} {done : List (List Nat)} {L : List Nat} (h : MmJ wS wq y (.slice (some ⟨b1, 0, none⟩) n cap) hc Hs done (L ++ [0])) (x : Nat) :
    MmJ wS (wq.setCell ⟨b1, L.length, none⟩ (.float .f64 x)) y (.slice (some ⟨b1, 0, none⟩) n cap) hc Hs done (L ++ [x]) := by
  obtain ⟨h1, h2, h3, h4, h5⟩ := h
  have hb1 : wS.heap.size ≤ b1 := by
    rcases h4.block_lt with hn | ⟨q, hq, hle, _⟩
    · cases hn
    · have hq' : b1 = q := by injection hq
      omega
  have hap : y.ownBlock = none ∨ y.ownBlock ≠ some b1 := by
    cases hy : y.ownBlock with
    | none => exact .inl rfl
    | some k => right; intro heq; injection heq with heq; subst heq; exact h5 _ hy rfl
  refine ⟨h1.setCell hb1 _, h2.put hap _, (h3.keep fun k hk => Below.heap_setCell wq _ _ k fun heq => ?_).more fun k hk => ⟨⟨hk.1.1, by rw [size_setCell]; exact hk.1.2.1, hk.1.2.2⟩, hk.2.1, by rw [size_setCell]; exact hk.2.2.1, hk.2.2.2⟩, ?_, h5⟩
  · rcases hk.2.2.2 with hn | hn
    · cases hn
    · exact hn (by rw [heq]; rfl)
  · rw [fls_ones] at h4 ⊢
    have := h4.set1 L.length (.float .f64 x)
    rw [List.map_append] at this ⊢
    have hl : L.length = (L.map fun x => Value.float .f64 x).length := by rw [List.length_map]
    rw [hl] at this
    simp only [List.map_cons, List.map_nil] at this ⊢
    rw [set_last, ← hl] at this
    exact this
/-- The row's header is laid among the product's. -/
theorem MmJ.head {wS wq : World} {z hc : Value} {yb n cap : Nat} {Hs : List Value} {done : List (List Nat)} {L : List Nat} (h : MmJ wS wq (.slice (some ⟨yb, 0, none⟩) n cap) z hc Hs done L) :
    MmJ wS (wq.setCell ⟨yb, Hs.length, none⟩ z) (.slice (some ⟨yb, 0, none⟩) n cap) z z Hs done L := by
  obtain ⟨h1, h2, h3, h4, h5⟩ := h
  have hyb : wS.heap.size ≤ yb := by
    rcases h2.block_lt with hn | ⟨q, hq, hle, _⟩
    · cases hn
    · have hq' : yb = q := by injection hq
      omega
  refine ⟨h1.setCell hyb _, ?_, (h3.keep fun k hk => Below.heap_setCell wq _ _ k fun heq => ?_).more fun k hk => ⟨⟨hk.1.1, by rw [size_setCell]; exact hk.1.2.1, hk.1.2.2⟩, hk.2.1, by rw [size_setCell]; exact hk.2.2.1, hk.2.2.2⟩, h4.put ?_ _, h5⟩
  · have := h2.set1 Hs.length z
    rw [set_last] at this
    exact this
  · rcases hk.1.2.2 with hn | hn
    · cases hn
    · exact hn (by rw [heq]; rfl)
  · right; exact h5 yb rfl
/-- The row is done. -/
theorem MmJ.done {wS wq : World} {y z : Value} {Hs : List Value} {done : List (List Nat)} {L : List Nat} (h : MmJ wS wq y z z Hs done L) (hL : L ≠ []) : MmAt wS wq y (Hs ++ [z]) (done ++ [L]) := by
  obtain ⟨h1, h2, h3, h4, h5⟩ := h
  refine ⟨h1, h2, ?_⟩
  rw [List.map_append]
  refine (h3.more fun k hk => hk.1).snoc (g := z) (m := fls L) ?_
  obtain ⟨g, cap, hz, hb, hlt, _, _, hrow⟩ := h4.row (by unfold fls; intro hh; exact hL (List.map_eq_nil_iff.1 hh))
  refine ⟨by unfold fls; intro hh; exact hL (List.map_eq_nil_iff.1 hh), g, 0, cap, hz, ⟨hb, hlt, ?_⟩, hrow⟩
  cases hy : y.ownBlock with
  | none => exact .inl rfl
  | some k => right; intro heq; injection heq with heq; subst heq; exact h5 _ hy (by rw [hz]; rfl)
end

/- newFormulaArgMatrix: rows of floats as the package's values. -/
section
open Go.RowKit
set_option maxRecDepth 100000
set_option maxHeartbeats 1000000

def gl1 (x : Nat) : Gl := ⟨1, x, ⟨#[]⟩⟩
def glm (S : List (List Nat)) : List (List Gl) := S.map fun r => r.map gl1
theorem glm_snoc (S : List (List Nat)) (k : Nat) (r : List Nat) (h : S[k]? = some r) : glm (S.take (k + 1)) = glm (S.take k) ++ [r.map gl1] := by
  unfold glm
  rw [List.take_add_one, h]
  simp

theorem Owns.put10 {w : World} {base : Nat} {e : TypeId} {size g : Nat} {v : Value} {cs : List (List Value)} (h : Owns w base e size v cs) (hp : v.ownBlock = none ∨ v.ownBlock ≠ some g) (o : Nat) (v0 v1 v2 v3 v4 v5 v6 v7 v8 v9 : Value) : Owns (put10 w g o v0 v1 v2 v3 v4 v5 v6 v7 v8 v9) base e size v cs :=
  Owns.put (Owns.put (Owns.put (Owns.put (Owns.put (Owns.put (Owns.put (Owns.put (Owns.put (Owns.put h hp _) hp _) hp _) hp _) hp _) hp _) hp _) hp _) hp _) hp _
theorem Keep.put10 {S : Nat → Prop} {w w' : World} (h : Keep S w w') {g : Nat} (hp : ∀ k, S k → k ≠ g) (o : Nat) (v0 v1 v2 v3 v4 v5 v6 v7 v8 v9 : Value) : Keep S w (put10 w' g o v0 v1 v2 v3 v4 v5 v6 v7 v8 v9) :=
  Keep.set (Keep.set (Keep.set (Keep.set (Keep.set (Keep.set (Keep.set (Keep.set (Keep.set (Keep.set h hp _) hp _) hp _) hp _) hp _) hp _) hp _) hp _) hp _) hp _

def FmAt (w wr : World) (y : Value) (Hs : List Value) (done : List (List Gl)) : Prop := Below w.heap.size w wr ∧ (KRow 10).Many wr w.heap.size 62 1 y Hs (done.map inns)
def FmIn (w wq : World) (y : Value) (Hs : List Value) (done : List (List Gl)) (gk n : Nat) (L : List Gl) : Prop :=
  Below w.heap.size w wq ∧ Owns wq w.heap.size 62 1 y ((Hs ++ [Value.slice (some ⟨gk, 0, none⟩) n n]).map fun h => [h]) ∧
    (KRow 10).all wq (fun k => NewBut w.heap.size wq y k ∧ k ≠ gk) Hs (done.map inns) ∧ (y.ownBlock = none ∨ y.ownBlock ≠ some gk) ∧ w.heap.size ≤ gk ∧ ColIs wq gk n L
theorem FmIn.below {w wq X : World} {y : Value} {Hs : List Value} {done : List (List Gl)} {gk n : Nat} {L : List Gl} (h : FmIn w wq y Hs done gk n L) (hb : Below wq.heap.size wq X) : FmIn w X y Hs done gk n L := by
  obtain ⟨h2, h4, h5, h6, h7, h8⟩ := h
  exact ⟨h2.trans (hb.mono h2.size), h4.below hb, (h5.keep (Keep.below hb fun k hk => hk.1.2.1)).more fun k hk => ⟨⟨hk.1.1, Nat.lt_of_lt_of_le hk.1.2.1 hb.size, hk.1.2.2⟩, hk.2⟩, h6, h7, h8.below hb⟩
theorem FmIn.put {w wq : World} {y : Value} {Hs : List Value} {done : List (List Gl)} {gk n : Nat} {L : List Gl} (h : FmIn w wq y Hs done gk n L) (hl : L.length < n) (x : Gl) (v0 v1 v2 v3 v4 v5 v6 v7 v8 v9 : Value) (hx : x.inn = [v0, v1, v2, v3, v4, v5, v6, v7, v8, v9]) :
    FmIn w (put10 wq gk (L.length * 10) v0 v1 v2 v3 v4 v5 v6 v7 v8 v9) y Hs done gk n (L ++ [x]) := by
  obtain ⟨h2, h4, h5, h6, h7, h8⟩ := h
  exact ⟨below_put10 h2 h7 _ _ _ _ _ _ _ _ _ _ _, h4.put10 h6 _ _ _ _ _ _ _ _ _ _ _, (h5.keep ((Keep.refl _ _).put10 (fun k hk => hk.2) _ _ _ _ _ _ _ _ _ _ _)).more fun k hk => ⟨⟨hk.1.1, by rw [put10_size]; exact hk.1.2.1, hk.1.2.2⟩, hk.2⟩, h6, h7, h8.put hl x v0 v1 v2 v3 v4 v5 v6 v7 v8 v9 hx⟩
theorem FmIn.done {w wq : World} {y : Value} {Hs : List Value} {done : List (List Gl)} {gk n : Nat} {L : List Gl} (h : FmIn w wq y Hs done gk n L) (hL : L.length = n) (hn : 0 < n) : FmAt w wq y (Hs ++ [.slice (some ⟨gk, 0, none⟩) n n]) (done ++ [L]) := by
  obtain ⟨h2, h4, h5, h6, h7, cs, h8, h9, h10⟩ := h
  refine ⟨h2, h4, ?_⟩
  rw [List.map_append]
  refine (h5.more fun k hk => hk.1).snoc (g := .slice (some ⟨gk, 0, none⟩) n n) (m := inns L) ?_
  have hl : (inns L).length = n := by unfold inns; rw [List.length_map, hL]
  refine ⟨by intro hh; rw [hh] at hl; simp at hl; omega, gk, 0, n, by rw [hl], ⟨h7, h8.lt, h6⟩, ?_⟩
  intro i c hi
  unfold inns at hi
  rw [List.getElem?_map] at hi
  cases hx : L[i]? with
  | none => rw [hx] at hi; cases hi
  | some x =>
    rw [hx] at hi
    have hc : x.inn = c := by simpa using hi
    subst hc
    refine ⟨inn_len x, fun j v hj => ?_⟩
    rw [Nat.zero_add]
    exact (h8.cell _).trans (h10 i x hx j v hj)
theorem FmIn.start {w wr w2 : World} {y v' : Value} {Hs : List Value} {done : List (List Gl)} {n : Nat} {BOX : Obj} (h : FmAt w wr y Hs done)
    (hown2 : Owns w2 w.heap.size 62 1 v' ((Hs.map fun h => [h]) ++ [[.slice (some ⟨wr.heap.size, 0, none⟩) n n]])) (hg2 : ((wr.alloc (.cells (zerosF n) 67)).alloc BOX).grownBy w2 y.ownBlock)
    (hat : v'.ownBlock = y.ownBlock ∨ v'.ownBlock = some (wr.heap.size + 2)) (hbe : Below w.heap.size (wr.alloc (.cells (zerosF n) 67)) w2) : FmIn w w2 v' Hs done wr.heap.size n [] := by
  obtain ⟨h2, h4, h5⟩ := h
  have hbl := h4.block_lt
  have hsz := hg2.size
  have hwr := h2.size
  simp only [World.size_alloc] at hsz
  refine ⟨(h2.alloc h2.size _).trans hbe, by rw [List.map_append]; exact hown2, ?_, ?_, hwr, zerosF n, ?_, zerosF_size n, by simp⟩
  · refine (h5.keep (w' := w2) fun k hk => ?_).more fun k hk => ⟨⟨hk.1, by have := hk.2.1; omega, ?_⟩, by have := hk.2.1; omega⟩
    · have hlt := hk.2.1
      refine (hg2.block k (by simp only [World.size_alloc]; omega) ?_).trans ?_
      · rcases hk.2.2 with h' | h'
        · rw [h']; simp
        · exact fun heq => h' heq.symm
      · exact (Below.heap_alloc _ _ k (by rw [World.size_alloc]; omega)).trans (Below.heap_alloc _ _ k hlt)
    · rcases hat with h' | h'
      · rw [h']; exact hk.2.2
      · right; rw [h']; intro hh; injection hh with hh; have := hk.2.1; omega
  · rcases hat with h' | h'
    · rw [h']
      rcases hbl with hn | ⟨q, hq, _, hlt⟩
      · exact .inl hn
      · right; rw [hq]; intro hh; injection hh with hh; omega
    · right; rw [h']; intro hh; injection hh with hh; omega
  · have hBZ : Blk (wr.alloc (.cells (zerosF n) 67)) wr.heap.size 67 (zerosF n) := Blk.new _ _ _
    refine (hg2.block wr.heap.size (by simp only [World.size_alloc]; omega) ?_).trans (Blk.alloc hBZ _)
    rcases hbl with hn | ⟨q, hq, _, hlt⟩
    · rw [hn]; simp
    · rw [hq]; intro hh; injection hh with hh; omega

def RowsPost (rows : List (List Gl)) (w : World) (e : Ending) (w' : World) : Prop :=
  ∃ g cap, e = .returned (.slice (some ⟨g, 0, none⟩) rows.length cap) ∧ RowsIs 10 w' (New w.heap.size w') (some ⟨g, 0, none⟩) rows.length (rows.map inns) ∧ Below w.heap.size w w'

set_option maxHeartbeats 8000000 in
theorem fam_any (A : Option Addr) (n c C : Nat) (S : List (List Nat)) (w : World) (hr : RowsIs 1 w (· < w.heap.size) A n (S.map fls)) (hn : n ≤ 1000) (hC0 : 0 < C) (hC1 : C ≤ 1000) (hC : ∀ r ∈ S, r.length = C) (hnum : ∀ r ∈ S, ∀ x ∈ r, Fl.Num x) :
    Calls Tryz.prog 54 #[.slice A n c] w (RowsPost (glm S) w) := by
  have hne : S ≠ [] := by intro h; apply hr.1; rw [h]; rfl
  obtain ⟨_, hm0, b, off, rfl, hb, hrow⟩ := hr
  have hm : n = S.length := by rw [hm0]; exact List.length_map _
  clear hm0
  have hAt : FmAt w w (.slice none 0 0) [] (glm (S.take 0)) := ⟨Below.refl _ _, Kind.Many.nil _ _ _ _⟩
  have HAT := Lib.hid hAt
  have HROW := Lib.hid hrow
  have HM := Lib.hid (And.intro hm (And.intro hC (And.intro hnum hne)))
  have hmk := make_rowF C hC1
  clear hm hrow hAt hC hnum hne
  go_enter Tryz.func54, Tryz.ntmps54
  go_wp2_with fail
  go_loopw [2, 9] (fun v i wr => ∃ (k : Nat) (y : Value) (Hs : List Value), k ≤ n ∧ i = .int .i64 k ∧ y = v ∧ FmAt w wr y Hs (glm (S.take k))) (fun _ i _ => n - (intOf i).toNat)
  case atStart => exact ⟨0, _, [], Nat.zero_le _, rfl, rfl, HAT.out⟩
  case round =>
    obtain ⟨k, y, Hs, hk, rfl, rfl, hAt⟩ := hrel
    have HA := Lib.hid hAt
    have hbe0 := hAt.1
    have hsz := hbe0.size
    clear hAt HAT
    by_cases hlt : k < n
    · obtain ⟨r, hr⟩ : ∃ r, S[k]? = some r := ⟨_, List.getElem?_eq_getElem (by rw [← HM.out.1]; exact hlt)⟩
      obtain ⟨hh, hc, _, b2, off2, c2, rfl, hb2, hrow2⟩ := HROW.out k (fls r) (by rw [List.getElem?_map, hr]; rfl)
      have hrl : r.length = C := HM.out.2.1 r (List.mem_of_getElem? hr)
      have hl : (fls r).length = C := by rw [← hrl]; exact List.length_map _
      rw [hl] at hc
      have hc1 : wr.cell? ⟨b, off + k, none⟩ = some (.slice (some ⟨b2, off2, none⟩) C c2) := (hbe0.cell (p := ⟨b, off + k, none⟩) hb).trans hc
      have hHl : Hs.length = k := by
        have := HA.out.2.len
        rw [this, List.length_map]; unfold glm; rw [List.length_map, List.length_take]; have := HM.out.1; omega
      have hown1 : Owns (wr.alloc (.cells (zerosF C) 67)) w.heap.size 62 1 y (Hs.map fun h => [h]) := HA.out.2.1.below ((Below.refl _ _).alloc (Nat.le_refl _) _)
      have hlk : (Hs.map fun h => [h]).length ≤ 1000000 := by rw [List.length_map, hHl]; omega
      have HR2 := Lib.hid (And.intro hr (And.intro hrl (And.intro hb2 hrow2)))
      have HHL := Lib.hid hHl
      have hb2' : b2 < w.heap.size := hb2
      clear hr hc hl hrow2 hrl hb2 hHl hbe0
      go_wp2_with (at_builtin; refine wpList_append_box (wr.alloc (.cells (zerosF C) 67)) rfl (.tmp 14) (.tmp 18) 63 rfl w.heap.size 62 _ 1 24 Tryz.underlying63 infoFs rfl (by decide) y (Hs.map fun h => [h]) (by rfl) (by exact hown1) #[.slice (some ⟨wr.heap.size, 0, none⟩) C C] rfl 1 _ (by rfl) (by simp) (by exact one_slice _ _ _) hlk (by decide) (by simp; omega) ?_; intro v' w2 hown2 hg2 hat2 hbe2)
      have hin := FmIn.start HA.out hown2 hg2 (by simpa using hat2) hbe2
      have HIN := Lib.hid hin
      obtain ⟨gg, capg, hv', _, hggl, _, _, _⟩ := hown2.row (by simp)
      have hlen2 : ((Hs.map fun h => [h]) ++ [#[Value.slice (some ⟨wr.heap.size, 0, none⟩) C C].toList]).length = k + 1 := by simp [HHL.out]
      obtain ⟨kk, hkk⟩ : ∃ kk, kk = k + 1 := ⟨_, rfl⟩
      rw [hlen2, ← hkk] at hv'
      have hkk1 : k < kk := by omega
      clear hkk
      obtain ⟨gk, hgk⟩ : ∃ gk, gk = wr.heap.size := ⟨_, rfl⟩
      rw [← hgk] at HIN
      clear hin hown2 hg2 hat2 hbe2 hlen2 hc1 hown1 hlk HA
      subst hv'
      go_wp2_with fail
      rw [← hgk]
      clear hgk
      go_loopw [22] (fun i wq => ∃ q : Nat, q ≤ C ∧ i = .int .i64 q ∧ FmIn w wq (.slice (some ⟨gg, 0, none⟩) kk capg) Hs (glm (S.take k)) gk C ((r.map gl1).take q)) (fun i _ => C - (intOf i).toNat)
      case atStart => exact ⟨0, Nat.zero_le _, rfl, HIN.out⟩
      case round =>
        obtain ⟨q, hq, rfl, hin⟩ := hrel
        have HI := Lib.hid hin
        clear hin
        by_cases hqn : q < C
        · obtain ⟨x, hx⟩ : ∃ x, r[q]? = some x := ⟨_, List.getElem?_eq_getElem (by rw [HR2.out.2.1]; exact hqn)⟩
          have hxn := HM.out.2.2.1 r (List.mem_of_getElem? HR2.out.1) x (List.mem_of_getElem? hx)
          have hR := (HR2.out.2.2.2.below HI.out.1 hb2') q [.float .f64 x] (by unfold fls; rw [List.getElem?_map, hx]; rfl)
          have c0 : wr.cell? ⟨b2, off2 + q, none⟩ = some (.float .f64 x) := by simpa using hR.2 0 _ rfl
          have hlt2 : b2 < wr.heap.size := Nat.lt_of_lt_of_le hb2' HI.out.1.size
          have d2 := (HI.out.2.1.cellAt k (.slice (some ⟨gk, 0, none⟩) C C) (by rw [List.getElem?_map, List.getElem?_append_right (by rw [HHL.out]; exact Nat.le_refl _), HHL.out]; simp)).1
          have hggr : gg < wr.heap.size := by
            rcases HI.out.2.1.block_lt with h | ⟨q', h, _, h2⟩
            · cases h
            · have h' : gg = q' := by injection h
              omega
          have htl : ((r.map gl1).take q).length = q := by rw [List.length_take, List.length_map, HR2.out.2.1]; omega
          have HG := Lib.hid (And.intro (show (r.map gl1).take (q + 1) = (r.map gl1).take q ++ [gl1 x] by rw [List.take_add_one, List.getElem?_map, hx]; rfl) (And.intro htl (And.intro hxn (inn_num (g := gl1 x) rfl))))
          have hk0 : (0 : Int) ≤ (k : Int) := by omega
          have hk1 : (k : Int) < (kk : Int) := by omega
          have hq0 : (0 : Int) ≤ (q : Int) := by omega
          have hq1 : (q : Int) < (C : Int) := by omega
          clear hx hR hxn htl
          go_wp2_with fail
          clear c0
          go_region_held3 (fun w' => w'.cell? ⟨gg, k, none⟩ = some (.slice (some ⟨gk, 0, none⟩) C C))
            (first | with_reducible exact d2 | with_reducible exact e2 | ((with_reducible show World.cell? (World.setCell _ _ _) _ = _); (repeat (rw [World.cell?_setCell_other _ _ _ _ (by intro h; injection h with h; first | exact hne5 h | exact hne5 h.symm)])); with_reducible exact e2) | (simp only [World.cell?_drew]; with_reducible exact d2) | go_keep)
            (first
              | (go_at_call 51
                 (with_reducible refine (newNumber_any x HG.out.2.2.1 _).mono ?_)
                 rintro e w5 ⟨rfl, hb5⟩
                 have HI5 := Lib.hid ((HI.out.below ((Below.refl _ _).drew)).below hb5)
                 have e2 := (hb5.cell (p := ⟨gg, k, none⟩) hggr).trans d2
                 have hggr5 : gg < w5.heap.size := Nat.lt_of_lt_of_le hggr hb5.size
                 have hne5 : gg ≠ gk := by
                   intro hh
                   rcases HI5.out.2.2.2.1 with h | h
                   · cases h
                   · exact h (by rw [hh]; rfl)
                 obtain ⟨cs, hblk, hcs, -⟩ := HI5.out.2.2.2.2.2
                 have hex : ∀ i, i < C * 10 → ∃ u, w5.cell? ⟨gk, i, none⟩ = some u := fun i hi => ⟨_, (hblk.cell i).trans (Array.getElem?_eq_getElem (by rw [hcs]; exact hi))⟩
                 obtain ⟨u0, f0⟩ := hex (q * 10) (by omega)
                 obtain ⟨u1, f1⟩ := hex (q * 10 + 1) (by omega)
                 obtain ⟨u2, f2⟩ := hex (q * 10 + 2) (by omega)
                 obtain ⟨u3, f3⟩ := hex (q * 10 + 3) (by omega)
                 obtain ⟨u4, f4⟩ := hex (q * 10 + 4) (by omega)
                 obtain ⟨u5, f5⟩ := hex (q * 10 + 5) (by omega)
                 obtain ⟨u6, f6⟩ := hex (q * 10 + 6) (by omega)
                 obtain ⟨u7, f7⟩ := hex (q * 10 + 7) (by omega)
                 obtain ⟨u8, f8⟩ := hex (q * 10 + 8) (by omega)
                 obtain ⟨u9, f9⟩ := hex (q * 10 + 9) (by omega)
                 have ff : ∀ o, w5.frozen? ⟨gk, o, none⟩ = false := fun o => hblk.free o
                 clear hblk hcs hex))
          have hfin := HI5.out.put (by rw [HG.out.2.1]; exact hqn) (gl1 x) _ _ _ _ _ _ _ _ _ _ HG.out.2.2.2
          rw [HG.out.2.1, ← HG.out.1] at hfin
          have HFI := Lib.hid hfin
          clear hfin f0 f1 f2 f3 f4 f5 f6 f7 f8 f9 ff e2 d2
          go_wp2_with fail
          go_roundw
          case rel => exact ⟨q + 1, by omega, by go_num, HFI.out⟩
          case measure => simp [intOf]; omega
        · obtain rfl : C = q := by omega
          have hd := HI.out
          have htk : (r.map gl1).take C = r.map gl1 := List.take_of_length_le (by rw [List.length_map, HR2.out.2.1]; exact Nat.le_refl _)
          rw [htk] at hd
          have hd := hd.done (by rw [List.length_map, HR2.out.2.1]) hC0
          rw [← glm_snoc S k r HR2.out.1] at hd
          have HD := Lib.hid hd
          clear hd
          go_wp2_with fail
          go_roundw
          case rel => exact ⟨k + 1, _, _, by omega, by go_num, rfl, HD.out⟩
          case measure => simp [intOf]; omega
    · obtain rfl : n = k := by omega
      have hm := HA.out
      rw [List.take_of_length_le (by rw [HM.out.1]; exact Nat.le_refl _)] at hm
      have hfl : (glm S).length = n := by unfold glm; rw [List.length_map, HM.out.1]
      have hfn : (glm S).map inns ≠ [] := by
        intro h
        have h0 : ((glm S).map inns).length = 0 := by rw [h]; rfl
        rw [List.length_map, hfl, HM.out.1] at h0
        exact HM.out.2.2.2 (List.length_eq_zero_iff.1 h0)
      obtain ⟨g, cap, rfl, hg, hrs⟩ := rows_out hm.2 hfn
      have hle : ((glm S).map inns).length = n := by rw [List.length_map, hfl]
      rw [hle] at hrs ⊢
      have HS := Lib.hid (And.intro hrs hfl)
      clear hm hrs hle hg hfl hfn
      go_wp2
      go_ret
      exact ⟨g, cap, by rw [HS.out.2]; rfl, by rw [HS.out.2]; exact HS.out.1, hbe0⟩
end

/- MDETERM in the package where newNumberMatrix refuses. -/
section
open Go.RowKit
set_option maxRecDepth 100000
set_option maxHeartbeats 1000000

def ErrF (w : World) (e : Ending) (w' : World) : Prop := e = .returned (.agg #[.string ⟨#[]⟩, .float .f64 0, .string (⟨#[35, 86, 65, 76, 85, 69, 33]⟩ : ByteArray), .slice none 0 0, .slice none 0 0, .bool false, .string (⟨#[35, 86, 65, 76, 85, 69, 33]⟩ : ByteArray), .int .u8 5, .pointer none, .pointer none]) ∧ Below w.heap.size w w'

end

/- MMULT in the package. -/
section
open Go.RowKit
set_option maxRecDepth 100000
set_option maxHeartbeats 1000000

/-- A list of two values, cell by cell. -/
structure List2 (w : World) (LB E G : Nat) (u v : Value) : Prop where
  lt : LB < w.heap.size
  lte : E < w.heap.size
  ltg : G < w.heap.size
  r0 : w.cell? ⟨LB, 0, none⟩ = some (.pointer (some ⟨E, 0, none⟩))
  r1 : w.cell? ⟨LB, 1, none⟩ = some (.pointer (some ⟨G, 0, none⟩))
  r4 : w.cell? ⟨LB, 4, none⟩ = some (.int .i64 2)
  e3 : w.cell? ⟨E, 3, none⟩ = some u
  g3 : w.cell? ⟨G, 3, none⟩ = some v
theorem IsList.two {w : World} {LB : Nat} {es : List Nat} {u v : Value} (h : IsList w LB es [u, v]) : ∃ E G, List2 w LB E G u v := by
  have hl := h.len
  match es, hl with
  | [E, G], _ =>
    obtain ⟨q, hq⟩ := h.node 0 E u rfl rfl
    obtain ⟨q2, hq2⟩ := h.node 1 G v rfl rfl
    exact ⟨E, G, h.lt, hq.lt, hq2.lt, by rw [h.root.cell]; rfl, by rw [h.root.cell]; rfl, by rw [h.root.cell]; rfl, by rw [hq.cell]; rfl, by rw [hq2.cell]; rfl⟩
theorem below_drewN' (w : World) (n : Nat) : Below w.heap.size w (w.drewN n) := ⟨rfl, rfl, rfl, Nat.le_refl _, fun _ _ => rfl⟩
/-- Rows of floats, by their places. -/
theorem frows {w : World} {g n : Nat} {S : List (List Nat)} (h : RowsIs 1 w (· < w.heap.size) (some ⟨g, 0, none⟩) n (S.map fls)) : g < w.heap.size ∧ ∀ i r, S[i]? = some r → ∃ v, w.cell? ⟨g, i, none⟩ = some v ∧ RowIs 1 w (· < w.heap.size) v (fls r) := by
  obtain ⟨_, _, b, off, he, hb, hrow⟩ := h
  injection he with he
  injection he with h1 h2
  subst h1 h2
  refine ⟨hb, fun i r hi => ?_⟩
  obtain ⟨v, hv, hr⟩ := hrow i (fls r) (by rw [List.getElem?_map, hi]; rfl)
  exact ⟨v, by simpa using hv, hr⟩
theorem flm_cols {rows : List (List Gl)} {C : Nat} (h : ∀ r ∈ rows, r.length = C) : ∀ r ∈ flm rows, r.length = C := by
  intro r hr
  obtain ⟨r0, h0, rfl⟩ := List.mem_map.1 hr
  rw [List.length_map]; exact h r0 h0

set_option maxHeartbeats 16000000 in
theorem ff_MMULT_ne (p : Addr) (LB E G : Nat) (A1 A2 : Option Addr) (n1 c1 P1 Q1 n2 c2 P2 Q2 : Nat) (rows1 rows2 : List (List Gl)) (R1 C1 R2 C2 : Nat) (w : World) (h : List2 w LB E G (.iface 67 (FMat A1 n1 c1 P1 Q1)) (.iface 67 (FMat A2 n2 c2 P2 Q2)))
    (hr1 : RowsIs 10 w (· < w.heap.size) A1 n1 (rows1.map inns)) (hr2 : RowsIs 10 w (· < w.heap.size) A2 n2 (rows2.map inns)) (hn1 : rows1.length = R1) (hn2 : rows2.length = R2) (hR1 : R1 ≤ 1000) (hR2 : R2 ≤ 1000) (hC10 : 0 < C1) (hC11 : C1 ≤ 1000) (hC20 : 0 < C2) (hC21 : C2 ≤ 1000)
    (hC1 : ∀ r ∈ rows1, r.length = C1) (hC2 : ∀ r ∈ rows2, r.length = C2) (hk1 : ∀ r ∈ rows1, ∀ g ∈ r, g.k = 1) (hk2 : ∀ r ∈ rows2, ∀ g ∈ r, g.k = 1)
    (hR10 : 0 < R1) (hR20 : 0 < R2) (hne : C1 ≠ R2) :
    Calls Tryz.prog 29 #[.pointer (some p), .pointer (some ⟨LB, 0, none⟩)] w (ErrF w) := by
  have hnb : ((C1 : Int) != (R2 : Int)) = true := by rw [bne_iff_ne]; omega
  have hbA : Below w.heap.size w (((w.alloc (.cells #[.string ⟨#[]⟩, .float .f64 0, .string ⟨#[]⟩, .slice none 0 0, .slice none 0 0, .bool false, .string ⟨#[]⟩, .int .u8 0, .pointer none, .pointer none] 67)).alloc (.cells #[.string ⟨#[]⟩, .float .f64 0, .string ⟨#[]⟩, .slice none 0 0, .slice A1 n1 c1, .bool false, .string ⟨#[]⟩, .int .u8 4, .pointer (some ⟨P1, 0, none⟩), .pointer (some ⟨Q1, 0, none⟩)] 67)).alloc (.cells #[.string ⟨#[]⟩, .float .f64 0, .string ⟨#[]⟩, .slice none 0 0, .slice A2 n2 c2, .bool false, .string ⟨#[]⟩, .int .u8 4, .pointer (some ⟨P2, 0, none⟩), .pointer (some ⟨Q2, 0, none⟩)] 67)) := (((Below.refl _ _).alloc (Nat.le_refl _) _).alloc (by simp) _).alloc (by simp; omega) _
  have hnm1 : ∀ W, Below w.heap.size w W → Calls Tryz.prog 52 #[FMat A1 n1 c1 P1 Q1, .bool false] W (FloatsPost (flm rows1) W) := fun W hW => nm_any A1 n1 c1 P1 Q1 C1 rows1 W ((hr1.keep (Keep.below hW fun _ hq => hq)).more fun q hq => Nat.lt_of_lt_of_le hq hW.size) (by rw [hr1.2.1, List.length_map]; omega) hC10 hC11 hC1 hk1
  have hnm2 : ∀ W, Below w.heap.size w W → Calls Tryz.prog 52 #[FMat A2 n2 c2 P2 Q2, .bool false] W (FloatsPost (flm rows2) W) := fun W hW => nm_any A2 n2 c2 P2 Q2 C2 rows2 W ((hr2.keep (Keep.below hW fun _ hq => hq)).more fun q hq => Nat.lt_of_lt_of_le hq hW.size) (by rw [hr2.2.1, List.length_map]; omega) hC20 hC21 hC2 hk2
  have Z0 := Lib.hid (Zero10.new w)
  have HBA := Lib.hid hbA
  have HNM1 := Lib.hid (hnm1 _ hbA)
  have HNM2 := Lib.hid hnm2
  have HSH := Lib.hid (And.intro hn1 (And.intro hn2 (And.intro hC1 hC2)))
  have bB : Blk (((w.alloc (.cells #[.string ⟨#[]⟩, .float .f64 0, .string ⟨#[]⟩, .slice none 0 0, .slice none 0 0, .bool false, .string ⟨#[]⟩, .int .u8 0, .pointer none, .pointer none] 67)).alloc (.cells #[.string ⟨#[]⟩, .float .f64 0, .string ⟨#[]⟩, .slice none 0 0, .slice A1 n1 c1, .bool false, .string ⟨#[]⟩, .int .u8 4, .pointer (some ⟨P1, 0, none⟩), .pointer (some ⟨Q1, 0, none⟩)] 67)).alloc (.cells #[.string ⟨#[]⟩, .float .f64 0, .string ⟨#[]⟩, .slice none 0 0, .slice A2 n2 c2, .bool false, .string ⟨#[]⟩, .int .u8 4, .pointer (some ⟨P2, 0, none⟩), .pointer (some ⟨Q2, 0, none⟩)] 67)) (w.heap.size + 1 + 1) 67 #[.string ⟨#[]⟩, .float .f64 0, .string ⟨#[]⟩, .slice none 0 0, .slice A2 n2 c2, .bool false, .string ⟨#[]⟩, .int .u8 4, .pointer (some ⟨P2, 0, none⟩), .pointer (some ⟨Q2, 0, none⟩)] := by
    have := Blk.new ((w.alloc (.cells #[.string ⟨#[]⟩, .float .f64 0, .string ⟨#[]⟩, .slice none 0 0, .slice none 0 0, .bool false, .string ⟨#[]⟩, .int .u8 0, .pointer none, .pointer none] 67)).alloc (.cells #[.string ⟨#[]⟩, .float .f64 0, .string ⟨#[]⟩, .slice none 0 0, .slice A1 n1 c1, .bool false, .string ⟨#[]⟩, .int .u8 4, .pointer (some ⟨P1, 0, none⟩), .pointer (some ⟨Q1, 0, none⟩)] 67)) 67 #[.string ⟨#[]⟩, .float .f64 0, .string ⟨#[]⟩, .slice none 0 0, .slice A2 n2 c2, .bool false, .string ⟨#[]⟩, .int .u8 4, .pointer (some ⟨P2, 0, none⟩), .pointer (some ⟨Q2, 0, none⟩)]
    simpa using this
  have HBB := Lib.hid bB
  have zA : Blk (((w.alloc (.cells #[.string ⟨#[]⟩, .float .f64 0, .string ⟨#[]⟩, .slice none 0 0, .slice none 0 0, .bool false, .string ⟨#[]⟩, .int .u8 0, .pointer none, .pointer none] 67)).alloc (.cells #[.string ⟨#[]⟩, .float .f64 0, .string ⟨#[]⟩, .slice none 0 0, .slice A1 n1 c1, .bool false, .string ⟨#[]⟩, .int .u8 4, .pointer (some ⟨P1, 0, none⟩), .pointer (some ⟨Q1, 0, none⟩)] 67)).alloc (.cells #[.string ⟨#[]⟩, .float .f64 0, .string ⟨#[]⟩, .slice none 0 0, .slice A2 n2 c2, .bool false, .string ⟨#[]⟩, .int .u8 4, .pointer (some ⟨P2, 0, none⟩), .pointer (some ⟨Q2, 0, none⟩)] 67)) w.heap.size 67 zero10 := ((Zero10.new w).alloc _).alloc _
  have HZA := Lib.hid zA
  obtain ⟨hlt, hlte, hltg, r0, r1, r4, e3, g3⟩ := h
  have hlt1 : LB < (w.alloc (.cells #[.string ⟨#[]⟩, .float .f64 0, .string ⟨#[]⟩, .slice none 0 0, .slice none 0 0, .bool false, .string ⟨#[]⟩, .int .u8 0, .pointer none, .pointer none] 67)).heap.size := by rw [World.size_alloc]; omega
  have r0' := (World.cell?_alloc_lt w (.cells #[.string ⟨#[]⟩, .float .f64 0, .string ⟨#[]⟩, .slice none 0 0, .slice none 0 0, .bool false, .string ⟨#[]⟩, .int .u8 0, .pointer none, .pointer none] 67) ⟨LB, 0, none⟩ hlt).trans r0
  have r1' := (World.cell?_alloc_lt w (.cells #[.string ⟨#[]⟩, .float .f64 0, .string ⟨#[]⟩, .slice none 0 0, .slice none 0 0, .bool false, .string ⟨#[]⟩, .int .u8 0, .pointer none, .pointer none] 67) ⟨LB, 1, none⟩ hlt).trans r1
  have r4' := (World.cell?_alloc_lt w (.cells #[.string ⟨#[]⟩, .float .f64 0, .string ⟨#[]⟩, .slice none 0 0, .slice none 0 0, .bool false, .string ⟨#[]⟩, .int .u8 0, .pointer none, .pointer none] 67) ⟨LB, 4, none⟩ hlt).trans r4
  have r1b := (World.cell?_alloc_lt (w.alloc (.cells #[.string ⟨#[]⟩, .float .f64 0, .string ⟨#[]⟩, .slice none 0 0, .slice none 0 0, .bool false, .string ⟨#[]⟩, .int .u8 0, .pointer none, .pointer none] 67)) (.cells #[.string ⟨#[]⟩, .float .f64 0, .string ⟨#[]⟩, .slice none 0 0, .slice A1 n1 c1, .bool false, .string ⟨#[]⟩, .int .u8 4, .pointer (some ⟨P1, 0, none⟩), .pointer (some ⟨Q1, 0, none⟩)] 67) ⟨LB, 1, none⟩ hlt1).trans r1'
  have r4b := (World.cell?_alloc_lt (w.alloc (.cells #[.string ⟨#[]⟩, .float .f64 0, .string ⟨#[]⟩, .slice none 0 0, .slice none 0 0, .bool false, .string ⟨#[]⟩, .int .u8 0, .pointer none, .pointer none] 67)) (.cells #[.string ⟨#[]⟩, .float .f64 0, .string ⟨#[]⟩, .slice none 0 0, .slice A1 n1 c1, .bool false, .string ⟨#[]⟩, .int .u8 4, .pointer (some ⟨P1, 0, none⟩), .pointer (some ⟨Q1, 0, none⟩)] 67) ⟨LB, 4, none⟩ hlt1).trans r4'
  unfold FMat at e3 g3 HNM1 HNM2
  clear hbA hnm1 hnm2 hr1 hr2 hn1 hn2 hC1 hC2 hk1 hk2 bB zA r0 r1 r4
  go_enter Tryz.func29, Tryz.ntmps29
  go_wp2_with fail
  refine (len_any _ _ _ r4').mono ?_
  rintro e v1 ⟨rfl, rfl⟩
  go_wp2_with fail
  refine (front_any _ _ _ _ r0' r4' (by decide)).mono ?_
  rintro e v1 ⟨rfl, rfl⟩
  go_wp2_with fail
  refine (back_any _ _ _ _ r1b r4b (by decide)).mono ?_
  rintro e v1 ⟨rfl, rfl⟩
  go_wp2_with fail
  refine HNM1.out.mono ?_
  rintro e w1 ⟨g1, k1, rfl, hrs1, hb1⟩
  have hbw1 := HBA.out.trans (hb1.mono HBA.out.size)
  have bB1 := HBB.out.below hb1 HBB.out.lt
  have d0 := bB1.cell 0
  have d1 := bB1.cell 1
  have d2 := bB1.cell 2
  have d3 := bB1.cell 3
  have d4 := bB1.cell 4
  have d5 := bB1.cell 5
  have d6 := bB1.cell 6
  have d7 := bB1.cell 7
  have d8 := bB1.cell 8
  have d9 := bB1.cell 9
  have hltB := bB1.lt
  have hl1 : (flm rows1).length = R1 := by unfold flm; rw [List.length_map, HSH.out.1]
  rw [hl1] at hrs1 ⊢
  have HRS1 := Lib.hid (And.intro hrs1 (And.intro hbw1 hb1))
  have HL1 := Lib.hid hl1
  have HNM2b := Lib.hid (HNM2.out _ (hbw1.alloc hbw1.size (.cells #[.string ⟨#[]⟩, .float .f64 0, .string ⟨#[]⟩, .slice none 0 0, .slice none 0 0, .bool false, .string ⟨#[]⟩, .int .u8 0, .pointer none, .pointer none] 67)))
  clear hrs1 hbw1 hb1 hl1 bB1 r0' r1' r4' r1b r4b e3 g3 HNM1 HNM2 HBB
  go_wp2_with fail
  refine HNM2b.out.mono ?_
  rintro e w2 ⟨g2, k2, rfl, hrs2, hb2⟩
  have hl2 : (flm rows2).length = R2 := by unfold flm; rw [List.length_map, HSH.out.2.1]
  rw [hl2] at hrs2 ⊢
  have HRS2 := Lib.hid (And.intro hrs2 hb2)
  have HL2 := Lib.hid hl2
  clear hrs2 hb2 hl2 d0 d1 d2 d3 d4 d5 d6 d7 d8 d9 HNM2b
  obtain ⟨wS, hwS⟩ : ∃ wS, wS = w2.alloc (.cells #[.string ⟨#[]⟩, .float .f64 0, .string ⟨#[]⟩, .slice none 0 0, .slice none 0 0, .bool false, .string ⟨#[]⟩, .int .u8 0, .pointer none, .pointer none] 67) := ⟨_, rfl⟩
  have hbZ : Below w1.heap.size w1 (w1.alloc (.cells #[.string ⟨#[]⟩, .float .f64 0, .string ⟨#[]⟩, .slice none 0 0, .slice none 0 0, .bool false, .string ⟨#[]⟩, .int .u8 0, .pointer none, .pointer none] 67)) := (Below.refl _ _).alloc (Nat.le_refl _) _
  have hb1S : Below w1.heap.size w1 wS := by rw [hwS]; exact (hbZ.trans (HRS2.out.2.mono hbZ.size)).alloc (Nat.le_trans hbZ.size HRS2.out.2.size) _
  have hb2S : Below w2.heap.size w2 wS := by rw [hwS]; exact (Below.refl _ _).alloc (Nat.le_refl _) _
  have hs1 : RowsIs 1 wS (· < wS.heap.size) (some ⟨g1, 0, none⟩) R1 ((flm rows1).map fls) := (HRS1.out.1.keep (Keep.below hb1S fun _ hq => hq.2)).more fun q hq => Nat.lt_of_lt_of_le hq.2 hb1S.size
  have hs2 : RowsIs 1 wS (· < wS.heap.size) (some ⟨g2, 0, none⟩) R2 ((flm rows2).map fls) := (HRS2.out.1.keep (Keep.below hb2S fun _ hq => hq.2)).more fun q hq => Nat.lt_of_lt_of_le hq.2 hb2S.size
  have HS1 := Lib.hid hs1
  have HS2 := Lib.hid hs2
  have HBS := Lib.hid (HRS1.out.2.1.trans (hb1S.mono HRS1.out.2.1.size))
  have zS : Zero10 wS w.heap.size := Blk.below HZA.out (HRS1.out.2.2.trans (hb1S.mono HRS1.out.2.2.size)) HZA.out.lt
  have HZS := Lib.hid zS
  have e10 : wS.cell? ⟨g1, 0, none⟩ = some (.slice (some ⟨wS.heap.size, 0, none⟩) 0 0) ∨ True := .inr trivial
  obtain ⟨row1, hrow1⟩ : ∃ row1, (flm rows1)[0]? = some row1 := ⟨_, List.getElem?_eq_getElem (by rw [HL1.out]; exact hR10)⟩
  obtain ⟨row2, hrow2⟩ : ∃ row2, (flm rows2)[0]? = some row2 := ⟨_, List.getElem?_eq_getElem (by rw [HL2.out]; exact hR20)⟩
  obtain ⟨hc1', hg1, _, a1, o1, q1, rfl, _, _⟩ := (frows hs1).2 0 row1 hrow1
  obtain ⟨hc2', hg2, _, a2, o2, q2, rfl, _, _⟩ := (frows hs2).2 0 row2 hrow2
  have hlr1 : (fls row1).length = C1 := by unfold fls; rw [List.length_map]; exact flm_cols HSH.out.2.2.1 row1 (List.mem_of_getElem? hrow1)
  have hlr2 : (fls row2).length = C2 := by unfold fls; rw [List.length_map]; exact flm_cols HSH.out.2.2.2 row2 (List.mem_of_getElem? hrow2)
  rw [hlr1] at hg1
  rw [hlr2] at hg2
  have hg1l : g1 < wS.heap.size := (frows hs1).1
  have hg2l : g2 < wS.heap.size := (frows hs2).1
  clear hs1 hs2 hrow1 hrow2 hlr1 hlr2 hb1S hb2S hbZ zS HZA HRS1 HRS2 e10
  go_wp2_with fail
  rw [← hwS]
  clear hwS
  go_quiet (fail)
  go_wp2_with fail
  refine (newError_any _ _ _).mono ?_
  rintro e w5 ⟨rfl, hb5⟩
  have hbT := (below_drewN' wS nq).trans (hb5.mono (Nat.le_refl _))
  obtain ⟨zl, z0, z1, z2, z3, z4, z5, z6, z7, z8, z9, zf⟩ := (HZS.out.below hbT).facts
  have HF := Lib.hid (HBS.out.trans (hbT.mono HBS.out.size))
  clear hb5 hbT hg1 hg2
  go_wp2
  exact bodyPost_ret (v := (.agg #[.string ⟨#[]⟩, .float .f64 0, .string (⟨#[35, 86, 65, 76, 85, 69, 33]⟩ : ByteArray), .slice none 0 0, .slice none 0 0, .bool false, .string (⟨#[35, 86, 65, 76, 85, 69, 33]⟩ : ByteArray), .int .u8 5, .pointer none, .pointer none])) (by simp [results, Tryz.results29, go_sem, zl, z0, z1, z2, z3, z4, z5, z6, z7, z8, z9, zf]) rfl ⟨rfl, below10 HF.out (Nat.le_refl _)⟩

theorem below_dN {B : Nat} {a w : World} (h : Below B a w) (n : Nat) : Below B a (w.drewN n) := h.trans ⟨rfl, rfl, rfl, Nat.le_refl _, fun _ _ => rfl⟩
/-- The sum of the first products, of floats. -/
def psum (F G : List (List Nat)) (i j t : Nat) : Nat := fdot (fun x => at2 F 0 i x) (fun x => at2 G 0 x j) t
/-- What the floats of both matrices stand for, and that the reference says the sums. -/
def Exact (F1 F2 : List (List Nat)) (B1 B2 : List (List Int)) (R1 m C2 : Nat) : Prop :=
  (∀ i j, i < R1 → j < C2 → ∃ n, idot (fun x => at2 B1 0 i x) (fun x => at2 B2 0 x j) m = some n) ∧ (∀ i x, i < R1 → x < m → Fl.Is (at2 F1 0 i x) (at2 B1 0 i x)) ∧ (∀ x j, x < m → j < C2 → Fl.Is (at2 F2 0 x j) (at2 B2 0 x j))
theorem Exact.is {F1 F2 : List (List Nat)} {B1 B2 : List (List Int)} {R1 m C2 i j : Nat} (h : Exact F1 F2 B1 B2 R1 m C2) (hi : i < R1) (hj : j < C2) : ∃ n, idot (fun x => at2 B1 0 i x) (fun x => at2 B2 0 x j) m = some n ∧ Fl.Is (prodF F1 F2 m i j) n := by
  obtain ⟨n, hn⟩ := h.1 i j hi hj
  exact ⟨n, hn, fdot_is m hn fun q hq => ⟨h.2.1 i q hi hq, h.2.2 q j hq hj⟩⟩
theorem Exact.step {F1 F2 : List (List Nat)} {B1 B2 : List (List Int)} {R1 m C2 i j k : Nat} (h : Exact F1 F2 B1 B2 R1 m C2) (hi : i < R1) (hj : j < C2) (hk : k < m) :
    floatBits .mul .f64 (at2 F1 0 i k) (at2 F2 0 k j) = some (fmul (at2 F1 0 i k) (at2 F2 0 k j)) ∧ floatBits .add .f64 (psum F1 F2 i j k) (fmul (at2 F1 0 i k) (at2 F2 0 k j)) = some (psum F1 F2 i j (k + 1)) := by
  obtain ⟨n, hn⟩ := h.1 i j hi hj
  exact fdot_step (ff := fun x => at2 F1 0 i x) (gg := fun x => at2 F2 0 x j) hn hk fun q hq => ⟨h.2.1 i q hi hq, h.2.2 q j hq hj⟩
set_option maxHeartbeats 32000000 in
theorem ff_MMULT_eq (p : Addr) (LB E G : Nat) (A1 A2 : Option Addr) (n1 c1 P1 Q1 n2 c2 P2 Q2 : Nat) (rows1 rows2 : List (List Gl)) (R1 m C2 : Nat) (w : World) (h : List2 w LB E G (.iface 67 (FMat A1 n1 c1 P1 Q1)) (.iface 67 (FMat A2 n2 c2 P2 Q2)))
    (hr1 : RowsIs 10 w (· < w.heap.size) A1 n1 (rows1.map inns)) (hr2 : RowsIs 10 w (· < w.heap.size) A2 n2 (rows2.map inns)) (hn1 : rows1.length = R1) (hn2 : rows2.length = m) (hR1 : R1 ≤ 1000) (hR2 : m ≤ 1000) (hC10 : 0 < m) (hC11 : m ≤ 1000) (hC20 : 0 < C2) (hC21 : C2 ≤ 1000)
    (hC1 : ∀ r ∈ rows1, r.length = m) (hC2 : ∀ r ∈ rows2, r.length = C2) (hk1 : ∀ r ∈ rows1, ∀ g ∈ r, g.k = 1) (hk2 : ∀ r ∈ rows2, ∀ g ∈ r, g.k = 1)
    (hR10 : 0 < R1) (B1 B2 : List (List Int)) (hex : Exact (flm rows1) (flm rows2) B1 B2 R1 m C2) :
    Calls Tryz.prog 29 #[.pointer (some p), .pointer (some ⟨LB, 0, none⟩)] w (MatPost (glm (grid (prodF (flm rows1) (flm rows2) m) R1 C2)) w) := by
  have hR20 : 0 < m := hC10
  have HEX := Lib.hid hex
  clear hex
  have hbA : Below w.heap.size w (((w.alloc (.cells #[.string ⟨#[]⟩, .float .f64 0, .string ⟨#[]⟩, .slice none 0 0, .slice none 0 0, .bool false, .string ⟨#[]⟩, .int .u8 0, .pointer none, .pointer none] 67)).alloc (.cells #[.string ⟨#[]⟩, .float .f64 0, .string ⟨#[]⟩, .slice none 0 0, .slice A1 n1 c1, .bool false, .string ⟨#[]⟩, .int .u8 4, .pointer (some ⟨P1, 0, none⟩), .pointer (some ⟨Q1, 0, none⟩)] 67)).alloc (.cells #[.string ⟨#[]⟩, .float .f64 0, .string ⟨#[]⟩, .slice none 0 0, .slice A2 n2 c2, .bool false, .string ⟨#[]⟩, .int .u8 4, .pointer (some ⟨P2, 0, none⟩), .pointer (some ⟨Q2, 0, none⟩)] 67)) := (((Below.refl _ _).alloc (Nat.le_refl _) _).alloc (by simp) _).alloc (by simp; omega) _
  have hnm1 : ∀ W, Below w.heap.size w W → Calls Tryz.prog 52 #[FMat A1 n1 c1 P1 Q1, .bool false] W (FloatsPost (flm rows1) W) := fun W hW => nm_any A1 n1 c1 P1 Q1 m rows1 W ((hr1.keep (Keep.below hW fun _ hq => hq)).more fun q hq => Nat.lt_of_lt_of_le hq hW.size) (by rw [hr1.2.1, List.length_map]; omega) hC10 hC11 hC1 hk1
  have hnm2 : ∀ W, Below w.heap.size w W → Calls Tryz.prog 52 #[FMat A2 n2 c2 P2 Q2, .bool false] W (FloatsPost (flm rows2) W) := fun W hW => nm_any A2 n2 c2 P2 Q2 C2 rows2 W ((hr2.keep (Keep.below hW fun _ hq => hq)).more fun q hq => Nat.lt_of_lt_of_le hq hW.size) (by rw [hr2.2.1, List.length_map]; omega) hC20 hC21 hC2 hk2
  have Z0 := Lib.hid (Zero10.new w)
  have HBA := Lib.hid hbA
  have HNM1 := Lib.hid (hnm1 _ hbA)
  have HNM2 := Lib.hid hnm2
  have HSH := Lib.hid (And.intro hn1 (And.intro hn2 (And.intro hC1 hC2)))
  have bB : Blk (((w.alloc (.cells #[.string ⟨#[]⟩, .float .f64 0, .string ⟨#[]⟩, .slice none 0 0, .slice none 0 0, .bool false, .string ⟨#[]⟩, .int .u8 0, .pointer none, .pointer none] 67)).alloc (.cells #[.string ⟨#[]⟩, .float .f64 0, .string ⟨#[]⟩, .slice none 0 0, .slice A1 n1 c1, .bool false, .string ⟨#[]⟩, .int .u8 4, .pointer (some ⟨P1, 0, none⟩), .pointer (some ⟨Q1, 0, none⟩)] 67)).alloc (.cells #[.string ⟨#[]⟩, .float .f64 0, .string ⟨#[]⟩, .slice none 0 0, .slice A2 n2 c2, .bool false, .string ⟨#[]⟩, .int .u8 4, .pointer (some ⟨P2, 0, none⟩), .pointer (some ⟨Q2, 0, none⟩)] 67)) (w.heap.size + 1 + 1) 67 #[.string ⟨#[]⟩, .float .f64 0, .string ⟨#[]⟩, .slice none 0 0, .slice A2 n2 c2, .bool false, .string ⟨#[]⟩, .int .u8 4, .pointer (some ⟨P2, 0, none⟩), .pointer (some ⟨Q2, 0, none⟩)] := by
    have := Blk.new ((w.alloc (.cells #[.string ⟨#[]⟩, .float .f64 0, .string ⟨#[]⟩, .slice none 0 0, .slice none 0 0, .bool false, .string ⟨#[]⟩, .int .u8 0, .pointer none, .pointer none] 67)).alloc (.cells #[.string ⟨#[]⟩, .float .f64 0, .string ⟨#[]⟩, .slice none 0 0, .slice A1 n1 c1, .bool false, .string ⟨#[]⟩, .int .u8 4, .pointer (some ⟨P1, 0, none⟩), .pointer (some ⟨Q1, 0, none⟩)] 67)) 67 #[.string ⟨#[]⟩, .float .f64 0, .string ⟨#[]⟩, .slice none 0 0, .slice A2 n2 c2, .bool false, .string ⟨#[]⟩, .int .u8 4, .pointer (some ⟨P2, 0, none⟩), .pointer (some ⟨Q2, 0, none⟩)]
    simpa using this
  have HBB := Lib.hid bB
  have zA : Blk (((w.alloc (.cells #[.string ⟨#[]⟩, .float .f64 0, .string ⟨#[]⟩, .slice none 0 0, .slice none 0 0, .bool false, .string ⟨#[]⟩, .int .u8 0, .pointer none, .pointer none] 67)).alloc (.cells #[.string ⟨#[]⟩, .float .f64 0, .string ⟨#[]⟩, .slice none 0 0, .slice A1 n1 c1, .bool false, .string ⟨#[]⟩, .int .u8 4, .pointer (some ⟨P1, 0, none⟩), .pointer (some ⟨Q1, 0, none⟩)] 67)).alloc (.cells #[.string ⟨#[]⟩, .float .f64 0, .string ⟨#[]⟩, .slice none 0 0, .slice A2 n2 c2, .bool false, .string ⟨#[]⟩, .int .u8 4, .pointer (some ⟨P2, 0, none⟩), .pointer (some ⟨Q2, 0, none⟩)] 67)) w.heap.size 67 zero10 := ((Zero10.new w).alloc _).alloc _
  have HZA := Lib.hid zA
  obtain ⟨hlt, hlte, hltg, r0, r1, r4, e3, g3⟩ := h
  have hlt1 : LB < (w.alloc (.cells #[.string ⟨#[]⟩, .float .f64 0, .string ⟨#[]⟩, .slice none 0 0, .slice none 0 0, .bool false, .string ⟨#[]⟩, .int .u8 0, .pointer none, .pointer none] 67)).heap.size := by rw [World.size_alloc]; omega
  have r0' := (World.cell?_alloc_lt w (.cells #[.string ⟨#[]⟩, .float .f64 0, .string ⟨#[]⟩, .slice none 0 0, .slice none 0 0, .bool false, .string ⟨#[]⟩, .int .u8 0, .pointer none, .pointer none] 67) ⟨LB, 0, none⟩ hlt).trans r0
  have r1' := (World.cell?_alloc_lt w (.cells #[.string ⟨#[]⟩, .float .f64 0, .string ⟨#[]⟩, .slice none 0 0, .slice none 0 0, .bool false, .string ⟨#[]⟩, .int .u8 0, .pointer none, .pointer none] 67) ⟨LB, 1, none⟩ hlt).trans r1
  have r4' := (World.cell?_alloc_lt w (.cells #[.string ⟨#[]⟩, .float .f64 0, .string ⟨#[]⟩, .slice none 0 0, .slice none 0 0, .bool false, .string ⟨#[]⟩, .int .u8 0, .pointer none, .pointer none] 67) ⟨LB, 4, none⟩ hlt).trans r4
  have r1b := (World.cell?_alloc_lt (w.alloc (.cells #[.string ⟨#[]⟩, .float .f64 0, .string ⟨#[]⟩, .slice none 0 0, .slice none 0 0, .bool false, .string ⟨#[]⟩, .int .u8 0, .pointer none, .pointer none] 67)) (.cells #[.string ⟨#[]⟩, .float .f64 0, .string ⟨#[]⟩, .slice none 0 0, .slice A1 n1 c1, .bool false, .string ⟨#[]⟩, .int .u8 4, .pointer (some ⟨P1, 0, none⟩), .pointer (some ⟨Q1, 0, none⟩)] 67) ⟨LB, 1, none⟩ hlt1).trans r1'
  have r4b := (World.cell?_alloc_lt (w.alloc (.cells #[.string ⟨#[]⟩, .float .f64 0, .string ⟨#[]⟩, .slice none 0 0, .slice none 0 0, .bool false, .string ⟨#[]⟩, .int .u8 0, .pointer none, .pointer none] 67)) (.cells #[.string ⟨#[]⟩, .float .f64 0, .string ⟨#[]⟩, .slice none 0 0, .slice A1 n1 c1, .bool false, .string ⟨#[]⟩, .int .u8 4, .pointer (some ⟨P1, 0, none⟩), .pointer (some ⟨Q1, 0, none⟩)] 67) ⟨LB, 4, none⟩ hlt1).trans r4'
  unfold FMat at e3 g3 HNM1 HNM2
  clear hbA hnm1 hnm2 hr1 hr2 hn1 hn2 hC1 hC2 hk1 hk2 bB zA r0 r1 r4
  go_enter Tryz.func29, Tryz.ntmps29
  go_wp2_with fail
  refine (len_any _ _ _ r4').mono ?_
  rintro e v1 ⟨rfl, rfl⟩
  go_wp2_with fail
  refine (front_any _ _ _ _ r0' r4' (by decide)).mono ?_
  rintro e v1 ⟨rfl, rfl⟩
  go_wp2_with fail
  refine (back_any _ _ _ _ r1b r4b (by decide)).mono ?_
  rintro e v1 ⟨rfl, rfl⟩
  go_wp2_with fail
  refine HNM1.out.mono ?_
  rintro e w1 ⟨g1, k1, rfl, hrs1, hb1⟩
  have hbw1 := HBA.out.trans (hb1.mono HBA.out.size)
  have bB1 := HBB.out.below hb1 HBB.out.lt
  have d0 := bB1.cell 0
  have d1 := bB1.cell 1
  have d2 := bB1.cell 2
  have d3 := bB1.cell 3
  have d4 := bB1.cell 4
  have d5 := bB1.cell 5
  have d6 := bB1.cell 6
  have d7 := bB1.cell 7
  have d8 := bB1.cell 8
  have d9 := bB1.cell 9
  have hltB := bB1.lt
  have hl1 : (flm rows1).length = R1 := by unfold flm; rw [List.length_map, HSH.out.1]
  rw [hl1] at hrs1 ⊢
  have HRS1 := Lib.hid (And.intro hrs1 (And.intro hbw1 hb1))
  have HL1 := Lib.hid hl1
  have HNM2b := Lib.hid (HNM2.out _ (hbw1.alloc hbw1.size (.cells #[.string ⟨#[]⟩, .float .f64 0, .string ⟨#[]⟩, .slice none 0 0, .slice none 0 0, .bool false, .string ⟨#[]⟩, .int .u8 0, .pointer none, .pointer none] 67)))
  clear hrs1 hbw1 hb1 hl1 bB1 r0' r1' r4' r1b r4b e3 g3 HNM1 HNM2 HBB
  go_wp2_with fail
  refine HNM2b.out.mono ?_
  rintro e w2 ⟨g2, k2, rfl, hrs2, hb2⟩
  have hl2 : (flm rows2).length = m := by unfold flm; rw [List.length_map, HSH.out.2.1]
  rw [hl2] at hrs2 ⊢
  have HRS2 := Lib.hid (And.intro hrs2 hb2)
  have HL2 := Lib.hid hl2
  clear hrs2 hb2 hl2 d0 d1 d2 d3 d4 d5 d6 d7 d8 d9 HNM2b
  obtain ⟨wS, hwS⟩ : ∃ wS, wS = w2.alloc (.cells #[.string ⟨#[]⟩, .float .f64 0, .string ⟨#[]⟩, .slice none 0 0, .slice none 0 0, .bool false, .string ⟨#[]⟩, .int .u8 0, .pointer none, .pointer none] 67) := ⟨_, rfl⟩
  have hbZ : Below w1.heap.size w1 (w1.alloc (.cells #[.string ⟨#[]⟩, .float .f64 0, .string ⟨#[]⟩, .slice none 0 0, .slice none 0 0, .bool false, .string ⟨#[]⟩, .int .u8 0, .pointer none, .pointer none] 67)) := (Below.refl _ _).alloc (Nat.le_refl _) _
  have hb1S : Below w1.heap.size w1 wS := by rw [hwS]; exact (hbZ.trans (HRS2.out.2.mono hbZ.size)).alloc (Nat.le_trans hbZ.size HRS2.out.2.size) _
  have hb2S : Below w2.heap.size w2 wS := by rw [hwS]; exact (Below.refl _ _).alloc (Nat.le_refl _) _
  have hs1 : RowsIs 1 wS (· < wS.heap.size) (some ⟨g1, 0, none⟩) R1 ((flm rows1).map fls) := (HRS1.out.1.keep (Keep.below hb1S fun _ hq => hq.2)).more fun q hq => Nat.lt_of_lt_of_le hq.2 hb1S.size
  have hs2 : RowsIs 1 wS (· < wS.heap.size) (some ⟨g2, 0, none⟩) m ((flm rows2).map fls) := (HRS2.out.1.keep (Keep.below hb2S fun _ hq => hq.2)).more fun q hq => Nat.lt_of_lt_of_le hq.2 hb2S.size
  have HS1 := Lib.hid hs1
  have HS2 := Lib.hid hs2
  have HBS := Lib.hid (HRS1.out.2.1.trans (hb1S.mono HRS1.out.2.1.size))
  have zS : Zero10 wS w.heap.size := Blk.below HZA.out (HRS1.out.2.2.trans (hb1S.mono HRS1.out.2.2.size)) HZA.out.lt
  have HZS := Lib.hid zS
  have e10 : wS.cell? ⟨g1, 0, none⟩ = some (.slice (some ⟨wS.heap.size, 0, none⟩) 0 0) ∨ True := .inr trivial
  obtain ⟨row1, hrow1⟩ : ∃ row1, (flm rows1)[0]? = some row1 := ⟨_, List.getElem?_eq_getElem (by rw [HL1.out]; exact hR10)⟩
  obtain ⟨row2, hrow2⟩ : ∃ row2, (flm rows2)[0]? = some row2 := ⟨_, List.getElem?_eq_getElem (by rw [HL2.out]; exact hR20)⟩
  obtain ⟨hc1', hg1, _, a1, o1, q1, rfl, _, _⟩ := (frows hs1).2 0 row1 hrow1
  obtain ⟨hc2', hg2, _, a2, o2, q2, rfl, _, _⟩ := (frows hs2).2 0 row2 hrow2
  have hlr1 : (fls row1).length = m := by unfold fls; rw [List.length_map]; exact flm_cols HSH.out.2.2.1 row1 (List.mem_of_getElem? hrow1)
  have hlr2 : (fls row2).length = C2 := by unfold fls; rw [List.length_map]; exact flm_cols HSH.out.2.2.2 row2 (List.mem_of_getElem? hrow2)
  rw [hlr1] at hg1
  rw [hlr2] at hg2
  have hg1l : g1 < wS.heap.size := (frows hs1).1
  have hg2l : g2 < wS.heap.size := (frows hs2).1
  clear hs1 hs2 hrow1 hrow2 hlr1 hlr2 hb1S hb2S hbZ zS HZA HRS1 HRS2 e10
  go_wp2_with fail
  rw [← hwS]
  clear hwS
  go_quiet (fail)
  obtain ⟨wT, hwT⟩ : ∃ wT, wT = wS.drewN nq := ⟨_, rfl⟩
  have hST : Below wS.heap.size wS wT := by rw [hwT]; exact below_drewN' wS nq
  have ht1 : RowsIs 1 wT (· < wT.heap.size) (some ⟨g1, 0, none⟩) R1 ((flm rows1).map fls) := (HS1.out.keep (Keep.below hST fun _ hq => hq)).more fun q hq => Nat.lt_of_lt_of_le hq hST.size
  have ht2 : RowsIs 1 wT (· < wT.heap.size) (some ⟨g2, 0, none⟩) m ((flm rows2).map fls) := (HS2.out.keep (Keep.below hST fun _ hq => hq)).more fun q hq => Nat.lt_of_lt_of_le hq hST.size
  have hg1T := (hST.cell (p := ⟨g1, 0, none⟩) hg1l).trans hg1
  have hg1Tl := (frows ht1).1
  have hg2Tl := (frows ht2).1
  have HT1 := Lib.hid (frows ht1).2
  have HT2 := Lib.hid (frows ht2).2
  have HBT := Lib.hid (And.intro (HBS.out.trans (hST.mono HBS.out.size)) (HZS.out.below hST))
  rw [← hwT]
  clear hwT hST ht1 ht2 hg1 hg2 hg1l hg2l HS1 HS2 HBS HZS
  obtain ⟨F1, hF1⟩ : ∃ F1, F1 = flm rows1 := ⟨_, rfl⟩
  obtain ⟨F2, hF2⟩ : ∃ F2, F2 = flm rows2 := ⟨_, rfl⟩
  have hc1 := flm_cols HSH.out.2.2.1
  have hc2 := flm_cols HSH.out.2.2.2
  rw [← hF1] at HEX HT1 HL1 hc1 ⊢
  rw [← hF2] at HEX HT2 HL2 hc2 ⊢
  have HCC := Lib.hid (And.intro hc1 hc2)
  have HEQ := Lib.hid (And.intro hF1 hF2)
  clear hF1 hF2 hc1 hc2
  have hAt : MmAt wT wT (.slice none 0 0) [] (grid (prodF F1 F2 m) 0 C2) := ⟨Below.refl _ _, Kind.Many.nil _ _ _ _⟩
  have HAT := Lib.hid hAt
  clear hAt
  go_wp2_with fail
  clear hg1T
  go_loopw [13, 17] (fun v i wr => ∃ (k : Nat) (y : Value) (Hs : List Value), k ≤ R1 ∧ i = .int .i64 k ∧ y = v ∧ MmAt wT wr y Hs (grid (prodF F1 F2 m) k C2)) (fun _ i _ => R1 - (intOf i).toNat)
  case atStart => exact ⟨0, _, [], Nat.zero_le _, rfl, rfl, HAT.out⟩
  case round =>
    obtain ⟨k, y, Hs, hk, rfl, rfl, hAt⟩ := hrel
    have HA := Lib.hid hAt
    have hbe0 := hAt.1
    have hsz := hbe0.size
    clear hAt HAT
    by_cases hkR : k < R1
    · obtain ⟨r1, hr1⟩ : ∃ r1, F1[k]? = some r1 := ⟨_, List.getElem?_eq_getElem (by rw [HL1.out]; exact hkR)⟩
      have hrl1 : r1.length = m := HCC.out.1 r1 (List.mem_of_getElem? hr1)
      obtain ⟨hh, hc, _, a1, o1, q1, rfl, ha1, hrow1⟩ := HT1.out k r1 hr1
      have hl : (fls r1).length = m := by unfold fls; rw [List.length_map, hrl1]
      rw [hl] at hc
      have hHl : Hs.length = k := by
        have := HA.out.2.len
        rw [this, List.length_map, grid_len]
      have hown1 : Owns (wr.alloc (.cells #[] 36)) wT.heap.size 95 1 y (ones Hs) := HA.out.2.1.below ((Below.refl _ _).alloc (Nat.le_refl _) _)
      have hlk : (ones Hs).length ≤ 1000000 := by rw [ones_len, hHl]; omega
      have HR1 := Lib.hid (And.intro hr1 (And.intro hrl1 (And.intro ha1 hrow1)))
      have HHL := Lib.hid hHl
      have ha1' : a1 < wT.heap.size := ha1
      clear hr1 hrl1 hl hrow1 ha1 hHl
      go_wp2_with (at_builtin; refine wpList_append_box (wr.alloc (.cells #[] 36)) rfl (.tmp 88) (.tmp 90) 92 rfl wT.heap.size 95 _ 1 24 Tryz.underlying92 infoFlts rfl (by decide) y (ones Hs) (by rfl) (by exact hown1) #[.slice (some ⟨wr.heap.size, 0, none⟩) 0 0] rfl 1 _ (by rfl) (by simp) (by exact one_slice _ _ _) hlk (by decide) (by simp; omega) ?_; intro v' w2 hown2 hg2 hat2 hbe2
                   have hc2 : w2.cell? ⟨g1, k, none⟩ = some (.slice (some ⟨a1, o1, none⟩) m q1) := (hbe2.cell (p := ⟨g1, k, none⟩) hg1Tl).trans ((World.cell?_alloc_lt _ _ _ (Nat.lt_of_lt_of_le hg1Tl hsz)).trans ((hbe0.cell (p := ⟨g1, k, none⟩) hg1Tl).trans hc))
                   have hg12 : g1 < w2.heap.size := by have := hbe2.size; simp at this; omega)
      have HJ := Lib.hid (MmJ.start HA.out hown2 hg2 (by simpa using hat2) hbe2)
      obtain ⟨yb, capy, hv', _, hybl, _, _, _⟩ := hown2.row (by simp)
      have hlen2 : (ones Hs ++ [#[Value.slice (some ⟨wr.heap.size, 0, none⟩) 0 0].toList]).length = k + 1 := by rw [List.length_append, ones_len, HHL.out]; rfl
      obtain ⟨kk, hkk⟩ : ∃ kk, kk = k + 1 := ⟨_, rfl⟩
      rw [hlen2, ← hkk] at hv'
      have hkk1 : k < kk := by omega
      clear hkk hlen2 hown2 hg2 hat2 hbe2 hc2 hg12 hc hown1 hlk HA
      subst hv'
      clear hbe0
      go_loopw [15, 18] (fun v i wq => ∃ (q : Nat) (z hc : Value), q ≤ C2 ∧ i = .int .i64 q ∧ z = v ∧ MmJ wT wq (.slice (some ⟨yb, 0, none⟩) kk capy) z hc Hs (grid (prodF F1 F2 m) k C2) ((List.range q).map fun j => prodF F1 F2 m k j) ∧ (0 < q → hc = z)) (fun _ i _ => C2 - (intOf i).toNat)
      case atStart => exact ⟨0, _, _, Nat.zero_le _, rfl, rfl, HJ.out, fun h => absurd h (Nat.lt_irrefl 0)⟩
      case round =>
        obtain ⟨q, z, hc, hq, rfl, rfl, hj, hcz⟩ := hrel
        have hbj := hj.1
        have hszj := hbj.size
        obtain ⟨zA, zc, rfl, _⟩ := hj.2.2.2.1.src
        have hzl : (fls ((List.range q).map fun j => prodF F1 F2 m k j)).length = q := by unfold fls; rw [List.length_map, line_len]
        rw [hzl] at hj hcz ⊢
        have HJ2 := Lib.hid (And.intro hj hcz)
        have HZL := Lib.hid hzl
        clear hj hcz hzl HJ
        by_cases hqC : q < C2
        · go_wp2_with fail
          obtain ⟨wo, rfl⟩ : ∃ wo : World, wo = wr := ⟨_, rfl⟩
          go_loopw [16, 19] (fun s i wq => ∃ t : Nat, t ≤ m ∧ i = .int .i64 t ∧ s = .float .f64 (psum F1 F2 k q t) ∧ Below wo.heap.size wo wq) (fun _ i _ => m - (intOf i).toNat)
          case atStart => exact ⟨0, Nat.zero_le _, rfl, rfl, Below.refl _ _⟩
          case round =>
            obtain ⟨t, ht, rfl, rfl, hbt⟩ := hrel
            have hszt := hbt.size
            by_cases htm : t < m
            · obtain ⟨r2, hr2⟩ : ∃ r2, F2[t]? = some r2 := ⟨_, List.getElem?_eq_getElem (by rw [HL2.out]; exact htm)⟩
              have hrl2 : r2.length = C2 := HCC.out.2 r2 (List.mem_of_getElem? hr2)
              obtain ⟨hh2, hc2, _, a2, o2, q2, rfl, ha2, hrow2⟩ := HT2.out t r2 hr2
              have hl2 : (fls r2).length = C2 := by unfold fls; rw [List.length_map, hrl2]
              rw [hl2] at hc2
              obtain ⟨x1, hx1⟩ : ∃ x1, r1[t]? = some x1 := ⟨_, List.getElem?_eq_getElem (by rw [HR1.out.2.1]; exact htm)⟩
              obtain ⟨x2, hx2⟩ : ∃ x2, r2[q]? = some x2 := ⟨_, List.getElem?_eq_getElem (by rw [hrl2]; exact hqC)⟩
              have hbT : Below wT.heap.size wT wr := hbj.trans (hbt.mono hszj)
              have ha2' : a2 < wT.heap.size := ha2
              have p1 : wr.cell? ⟨a1, o1 + t, none⟩ = some (.float .f64 x1) := (hbT.cell (p := ⟨a1, o1 + t, none⟩) ha1').trans (by simpa using (HR1.out.2.2.2 t [.float .f64 x1] (by unfold fls; rw [List.getElem?_map, hx1]; rfl)).2 0 _ rfl)
              have p2 : wr.cell? ⟨g2, t, none⟩ = some (.slice (some ⟨a2, o2, none⟩) C2 q2) := (hbT.cell (p := ⟨g2, t, none⟩) hg2Tl).trans hc2
              have p3 : wr.cell? ⟨a2, o2 + q, none⟩ = some (.float .f64 x2) := (hbT.cell (p := ⟨a2, o2 + q, none⟩) ha2').trans (by simpa using (hrow2 q [.float .f64 x2] (by unfold fls; rw [List.getElem?_map, hx2]; rfl)).2 0 _ rfl)
              have hst := HEX.out.step hkR hqC htm
              rw [at2_get HR1.out.1 hx1, at2_get hr2 hx2] at hst
              have hmul := fun wx => run_float_arith (P := Tryz.prog) wx .mul 36 .f64 _ _ _ hst.1
              have hadd := fun wx => run_float_arith (P := Tryz.prog) wx .add 36 .f64 _ _ _ hst.2
              have HBT2 := Lib.hid hbt
              clear hr2 hrl2 hl2 hc2 hx1 hx2 hrow2 ha2 hst hbT hbt
              go_wp2_with fail
              go_quiet (fail)
              go_wp2_with fail
              go_roundw
              case rel => exact ⟨t + 1, by omega, by go_num, rfl, below_dN HBT2.out _⟩
              case measure => simp [intOf]; omega
            · obtain rfl : m = t := by omega
              have hownz : Owns wr wT.heap.size 36 1 (.slice zA q zc) (fls ((List.range q).map fun j => prodF F1 F2 m k j)) := (HJ2.out.1.below hbt).2.2.2.1
              have hlz : (fls ((List.range q).map fun j => prodF F1 F2 m k j)).length ≤ 1000000 := by rw [HZL.out]; omega
              have hTwr : wT.heap.size ≤ wr.heap.size := Nat.le_trans hszj hszt
              go_wp2_with fail
              refine wp_loop_rounds 2 ?_
              rw [rounds_succ]
              go_wp2_with (at_builtin; refine wpList_append_box wr rfl (.tmp 128) (.tmp 129) 95 rfl wT.heap.size 36 _ 1 8 Tryz.underlying95 infoFlt rfl (by decide) (.slice zA q zc) (fls ((List.range q).map fun j => prodF F1 F2 m k j)) (by rfl) (by exact hownz) #[.float .f64 0] rfl 1 _ (by rfl) (by simp) (by intro u hu; simp at hu; subst hu; rfl) hlz (by decide) hTwr ?_; intro z1 w3 hown3 hg3 hat3 hbe3)
              have hl3 : (fls ((List.range q).map fun j => prodF F1 F2 m k j) ++ [#[Value.float .f64 0].toList]).length = q + 1 := by rw [List.length_append, HZL.out]; rfl
              obtain ⟨b1, cap1, hz1, _, hb1l, _, _, _⟩ := hown3.row (by simp)
              obtain ⟨qq, hqq⟩ : ∃ qq, qq = q + 1 := ⟨_, rfl⟩
              rw [hl3, ← hqq] at hz1
              have hqq1 : q < qq := by omega
              have hJ3 := MmJ.grow (HJ2.out.1.below hbt) hown3 hg3 (by simpa using hat3) hbe3
              subst hz1
              have f1 : w3.cell? ⟨b1, q, none⟩ = some (.float .f64 0) := (hJ3.2.2.2.1.cellAt q (.float .f64 0) (by unfold fls; rw [List.map_append, List.getElem?_append_right (by rw [List.length_map, line_len]; exact Nat.le_refl _), List.length_map, line_len]; simp)).1
              have f2 : w3.frozen? ⟨b1, q, none⟩ = false := by
                have h := hJ3.2.2.2.1
                rw [fls_ones] at h
                exact h.free1 q
              have f3 : w3.cell? ⟨yb, k, none⟩ = some hc := (hJ3.2.1.cellAt k hc (by unfold ones; rw [List.map_append, List.getElem?_append_right (by rw [List.length_map, HHL.out]; exact Nat.le_refl _), List.length_map, HHL.out]; simp)).1
              have f4 : w3.frozen? ⟨yb, k, none⟩ = false := hJ3.2.1.free1 k
              have f5 : b1 ≠ yb := by
                intro h
                exact hJ3.2.2.2.2 yb rfl (by rw [h]; rfl)
              have f6 : yb ≠ b1 := fun h => f5 h.symm
              have f3' : (w3.setCell ⟨b1, q, none⟩ (.float .f64 (psum F1 F2 k q m))).cell? ⟨yb, k, none⟩ = some hc := by
                rw [World.cell?_setCell_other _ _ _ _ (by intro h; injection h with h; first | exact f5 h | exact f6 h)]; exact f3
              have hs := hJ3.sum (psum F1 F2 k q m)
              rw [line_len] at hs
              have hh := hs.head
              rw [HHL.out, show (psum F1 F2 k q m) = (fun j => prodF F1 F2 m k j) q from rfl, ← line_snoc] at hh
              have HF := Lib.hid hh
              have hl3' := hb1l
              clear hJ3 hs hh hown3 hg3 hat3 hbe3 hl3 hownz hlz hqq
              rw [rounds_succ]
              go_wp2_with fail
              go_roundw
              case rel => exact ⟨q + 1, _, _, by omega, by go_num, rfl, HF.out, fun _ => rfl⟩
              case measure => simp [intOf]; omega
        · obtain rfl : C2 = q := by omega
          have hd := HJ2.out.1
          rw [HJ2.out.2 hC20] at hd
          have hd := hd.done (by intro h; have := line_len (fun j => prodF F1 F2 m k j) C2; rw [h] at this; simp at this; omega)
          rw [← grid_snoc] at hd
          have HD := Lib.hid hd
          clear hd
          go_wp2_with fail
          go_roundw
          case rel => exact ⟨k + 1, _, _, by omega, by go_num, rfl, HD.out⟩
          case measure => simp [intOf]; omega
    · obtain rfl : R1 = k := by omega
      have hgl : (grid (prodF F1 F2 m) R1 C2).length = R1 := grid_len _ _ _
      have hgn : (grid (prodF F1 F2 m) R1 C2).map fls ≠ [] := by
        intro h
        have h0 : ((grid (prodF F1 F2 m) R1 C2).map fls).length = 0 := by rw [h]; rfl
        rw [List.length_map, hgl] at h0
        omega
      obtain ⟨g, cap, rfl, _, hrs⟩ := rows_out HA.out.2 hgn
      have hle : ((grid (prodF F1 F2 m) R1 C2).map fls).length = R1 := by rw [List.length_map, hgl]
      rw [hle] at hrs ⊢
      have hmem : ∀ r ∈ grid (prodF F1 F2 m) R1 C2, r.length = C2 ∧ ∀ x ∈ r, Fl.Num x := by
        intro r hr
        obtain ⟨i, hi, rfl⟩ := List.mem_map.1 hr
        rw [List.mem_range] at hi
        refine ⟨line_len _ _, fun x hx => ?_⟩
        obtain ⟨j, hj, rfl⟩ := List.mem_map.1 hx
        rw [List.mem_range] at hj
        obtain ⟨n, _, hn⟩ := HEX.out.is hi hj
        exact Fl.is_num hn
      have HFA := Lib.hid (fam_any (some ⟨g, 0, none⟩) R1 cap C2 (grid (prodF F1 F2 m) R1 C2) wr (hrs.more fun q hq => hq.2) hR1 hC20 hC21 (fun r hr => (hmem r hr).1) (fun r hr => (hmem r hr).2))
      have HBR := Lib.hid (And.intro (HBT.out.1.trans (hbe0.mono HBT.out.1.size)) (HBT.out.2.below hbe0))
      clear hrs hgl hgn hle hmem hbe0
      go_wp2_with fail
      refine HFA.out.mono ?_
      rintro e w6 ⟨g6, cap6, rfl, hr6, hb6⟩
      have hgm : (glm (grid (prodF F1 F2 m) R1 C2)).length = R1 := by unfold glm; rw [List.length_map, grid_len]
      rw [hgm] at hr6 ⊢
      have HR6 := Lib.hid (And.intro hr6 (And.intro hb6 hgm))
      clear hr6 hb6 hgm
      go_wp2_with fail
      refine (newMatrix_any _ _ _ _).mono ?_
      rintro e w7 ⟨rfl, hb7⟩
      have hb67 := HR6.out.2.1.trans (hb7.mono HR6.out.2.1.size)
      obtain ⟨zl, z0, z1, z2, z3, z4, z5, z6, z7, z8, z9, zf⟩ := (HBR.out.2.below hb67).facts
      have hzw : w.heap.size < wr.heap.size := HBR.out.2.lt
      have hr7 : RowsIs 10 w7 (New (w.heap.size + 1) w7) (some ⟨g6, 0, none⟩) R1 ((glm (grid (prodF F1 F2 m) R1 C2)).map inns) := (HR6.out.1.keep (Keep.below hb7 fun _ hq => hq.2)).more fun q hq => ⟨by have := hq.1; omega, Nat.lt_of_lt_of_le hq.2 hb7.size⟩
      have HF := Lib.hid (And.intro hr7 (HBR.out.1.trans (hb67.mono HBR.out.1.size)))
      clear hb7 hb67 hr7
      go_wp2
      exact bodyPost_ret (v := (.agg #[.string ⟨#[]⟩, .float .f64 0, .string ⟨#[]⟩, .slice none 0 0, .slice (some ⟨g6, 0, none⟩) R1 cap6, .bool false, .string ⟨#[]⟩, .int .u8 4, .pointer none, .pointer none])) (by simp [results, Tryz.results29, go_sem, zl, z0, z1, z2, z3, z4, z5, z6, z7, z8, z9, zf]) rfl (by rw [← HEQ.out.1, ← HEQ.out.2]; exact MatPost.mk10 HR6.out.2.2 HF.out.1 HF.out.2 _ _ _ _ _ _ _ _ _ _)
end

end Go.Proofs.YtdpkjhohklfieaaGreat
