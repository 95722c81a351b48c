/- newNumberMatrix where it refuses: the rows are no square, or not all are numbers. MDETERM then. -/
import Derived.Test.YtdpkjhohklfieaaGreatNm
import Derived.Test.YtdpkjhohklfieaaGreatLa
import Derived.Laws.MakeOwn
import Derived.RegionTactic
set_option linter.unusedSimpArgs false
set_option linter.unusedVariables false
namespace Go.Proofs.YtdpkjhohklfieaaGreat
open Go.RowKit
set_option maxRecDepth 100000
set_option maxHeartbeats 1000000

def BadPost (w : World) (e : Ending) (w' : World) : Prop := ∃ v, e = .returned (.tuple #[v, (.agg #[.string ⟨#[]⟩, .float .f64 0, .string (⟨#[35, 86, 65, 76, 85, 69, 33]⟩ : ByteArray), .slice none 0 0, .slice none 0 0, .bool false, .string (⟨#[35, 86, 65, 76, 85, 69, 33]⟩ : ByteArray), .int .u8 5, .pointer none, .pointer none])]) ∧ Below w.heap.size w w'

theorem infoFlt : (Tryz.prog.info? 36).map (fun i => (i.zero, i.size, i.bytes)) = some (some (.float .f64 0), 1, 8) := by kernel_rfl
theorem infoFlts : (Tryz.prog.info? 95).map (fun i => (i.zero, i.size, i.bytes)) = some (some (.slice none 0 0), 1, 24) := by kernel_rfl
def zerosA (n : Nat) : Array Value := madeCells (Value.float .f64 0).cells (n * 1)
theorem zerosA_size (n : Nat) : (zerosA n).size = n := by unfold zerosA; rw [size_madeCells, Nat.mul_one]
theorem make_row (n : Nat) (h : n ≤ 1000) (W : World) : (Instr.makeSlice 95 (.int .i64 n) (.int .i64 n)).run Tryz.prog W = .ok (.slice (some ⟨W.heap.size, 0, none⟩) n n) (W.alloc (.cells (zerosA n) 36)) := by
  obtain ⟨i, hi, hz, hs, hb⟩ := info_parts infoFlt
  have hb2 : (i.bytes : Int) * (n : Int) ≤ 281474976710656 := by rw [hb]; omega
  have hr := run_make (P := Tryz.prog) W 95 36 i (.float .f64 0) Tryz.underlying95 hi hz .i64 .i64 n n (by omega) (by omega) hb2 (by omega)
  rw [hs] at hr
  simp only [Int.toNat_natCast] at hr
  exact hr

theorem isF (x : Nat) (s : ByteArray) (b : Bool) (e : ByteArray) (t : Int) : True := trivial

set_option maxHeartbeats 4000000 in
theorem nm_ne (A : Option Addr) (n c P Q C : Nat) (r : List Gl) (rs : List (List Gl)) (w : World) (hr : RowsIs 10 w (· < w.heap.size) A n ((r :: rs).map inns)) (hn : n ≤ 1000) (hC : r.length = C) (hC1 : C ≤ 1000) (hne : n ≠ C) :
    Calls Tryz.prog 52 #[FMat A n c P Q, .bool true] w (BadPost w) := by
  obtain ⟨_, hm, b, off, rfl, hb, hrow⟩ := hr
  obtain ⟨hh, hc, _, b2, off2, c2, rfl, hb2, _⟩ := hrow 0 (inns r) rfl
  have hl : (inns r).length = C := by rw [← hC]; exact List.length_map _
  rw [hl] at hc
  have hnp : 0 < n := by rw [hm]; simp
  have z0 : Zero10 ((w.alloc (.cells #[.string ⟨#[]⟩, .float .f64 0, .string ⟨#[]⟩, .slice none 0 0, .slice (some ⟨b, off, none⟩) n c, .bool false, .string ⟨#[]⟩, .int .u8 4, .pointer (some ⟨P, 0, none⟩), .pointer (some ⟨Q, 0, none⟩)] 67)).alloc (.cells #[.string ⟨#[]⟩, .float .f64 0, .string ⟨#[]⟩, .slice none 0 0, .slice none 0 0, .bool false, .string ⟨#[]⟩, .int .u8 0, .pointer none, .pointer none] 67)) (w.heap.size + 1) := by
    have := Zero10.new (w.alloc (.cells #[.string ⟨#[]⟩, .float .f64 0, .string ⟨#[]⟩, .slice none 0 0, .slice (some ⟨b, off, none⟩) n c, .bool false, .string ⟨#[]⟩, .int .u8 4, .pointer (some ⟨P, 0, none⟩), .pointer (some ⟨Q, 0, none⟩)] 67))
    simpa using this
  have hbA : Below w.heap.size w ((w.alloc (.cells #[.string ⟨#[]⟩, .float .f64 0, .string ⟨#[]⟩, .slice none 0 0, .slice (some ⟨b, off, none⟩) n c, .bool false, .string ⟨#[]⟩, .int .u8 4, .pointer (some ⟨P, 0, none⟩), .pointer (some ⟨Q, 0, none⟩)] 67)).alloc (.cells #[.string ⟨#[]⟩, .float .f64 0, .string ⟨#[]⟩, .slice none 0 0, .slice none 0 0, .bool false, .string ⟨#[]⟩, .int .u8 0, .pointer none, .pointer none] 67)) := ((Below.refl _ _).alloc (Nat.le_refl _) _).alloc (by simp) _
  have hc1 := (hbA.cell (p := ⟨b, off, none⟩) hb).trans (by simpa using hc)
  have hne' : ((C : Int) == (n : Int)) = false := by rw [beq_eq_false_iff_ne]; omega
  have Z0 := Lib.hid (And.intro z0 hbA)
  clear hm hrow hc hl z0 hbA
  unfold FMat
  go_enter Tryz.func52, Tryz.ntmps52
  go_wp2_with fail
  refine wp_loop_rounds 1 ?_
  rw [rounds_succ]
  go_wp2_with fail
  refine (newError_any _ _ _).mono ?_
  rintro e w1 ⟨rfl, hb1⟩
  have hbw := Z0.out.2.trans (hb1.mono Z0.out.2.size)
  obtain ⟨zl, z0, z1, z2, z3, z4, z5, z6, z7, z8, z9, zf⟩ := (Z0.out.1.below hb1).facts
  clear hb1
  go_wp2
  exact bodyPost_ret (v := (.tuple #[.slice none 0 0, (.agg #[.string ⟨#[]⟩, .float .f64 0, .string (⟨#[35, 86, 65, 76, 85, 69, 33]⟩ : ByteArray), .slice none 0 0, .slice none 0 0, .bool false, .string (⟨#[35, 86, 65, 76, 85, 69, 33]⟩ : ByteArray), .int .u8 5, .pointer none, .pointer none])])) (by simp [results, Tryz.results52, go_sem, zl, z0, z1, z2, z3, z4, z5, z6, z7, z8, z9, zf]) rfl ⟨_, rfl, below10 hbw (Nat.le_succ _)⟩


theorem Owns.cellAt {w : World} {base : Nat} {e : TypeId} {g m cap : Nat} {cs : List (List Value)} (h : Owns w base e 1 (.slice (some ⟨g, 0, none⟩) m cap) cs) (i : Nat) (x : Value) (hi : cs[i]? = some [x]) : w.cell? ⟨g, i, none⟩ = some x ∧ m = cs.length := by
  obtain ⟨g', cap', he, _, _, _, _, hrow⟩ := h.row (by rintro rfl; simp at hi)
  injection he with e1 e2 e3
  injection e1 with e1
  injection e1 with e1
  subst e1
  exact ⟨by simpa using (hrow i _ hi).2 0 x rfl, e2⟩

def DmAt (w wr : World) (y : Value) (Hs : List Value) (k : Nat) : Prop :=
  Zero10 wr (w.heap.size + 1) ∧ Below w.heap.size w wr ∧ w.heap.size + 2 ≤ wr.heap.size ∧ Hs.length = k ∧ Owns wr (w.heap.size + 2) 95 1 y (Hs.map fun h => [h])
def DmIn (w wq : World) (y : Value) (Hs : List Value) (gk n : Nat) : Prop :=
  Zero10 wq (w.heap.size + 1) ∧ Below w.heap.size w wq ∧ w.heap.size + 2 ≤ wq.heap.size ∧ Owns wq (w.heap.size + 2) 95 1 y (Hs.map fun h => [h]) ∧ ∃ cs : Array Value, cs.size = n ∧ Blk wq gk 36 cs
theorem DmIn.below {w wq X : World} {y : Value} {Hs : List Value} {gk n : Nat} (h : DmIn w wq y Hs gk n) (hb : Below wq.heap.size wq X) : DmIn w X y Hs gk n := by
  obtain ⟨h1, h2, h3, h4, cs, h5, h6⟩ := h
  exact ⟨h1.below hb, h2.trans (hb.mono h2.size), Nat.le_trans h3 hb.size, h4.below hb, cs, h5, h6.below hb h6.lt⟩
theorem DmIn.put {w wq : World} {y : Value} {Hs : List Value} {gk n q : Nat} (h : DmIn w wq y Hs gk n) (hy : y.ownBlock = none ∨ y.ownBlock ≠ some gk) (hg : w.heap.size + 2 ≤ gk) (u : Value) : DmIn w (wq.setCell ⟨gk, q, none⟩ u) y Hs gk n := by
  obtain ⟨h1, h2, h3, h4, cs, h5, h6⟩ := h
  refine ⟨Blk.far h1 (by show w.heap.size + 1 ≠ gk; omega) u, h2.setCell (by show w.heap.size ≤ gk; omega) u, by rw [size_setCell]; exact h3, h4.put hy u, _, ?_, h6.put q u⟩
  simpa using h5
theorem DmIn.same {w wq X : World} {y : Value} {Hs : List Value} {gk n : Nat} (h : DmIn w wq y Hs gk n) (hh : X.heap = wq.heap) (h1 : X.os = wq.os) (h2 : X.tape = wq.tape) (h3 : X.output = wq.output) : DmIn w X y Hs gk n :=
  h.below ⟨h1, h2, h3, by rw [hh]; exact Nat.le_refl _, fun _ _ => by rw [hh]⟩

set_option maxHeartbeats 8000000 in
theorem nm_eq (A : Option Addr) (n c P Q : Nat) (rows : List (List Gl)) (w : World) (hr : RowsIs 10 w (· < w.heap.size) A n (rows.map inns)) (hn : n ≤ 1000) (hC : ∀ r ∈ rows, r.length = n) (hbad : (rows.flatten.all fun g => tyOf g == 1) = false) :
    Calls Tryz.prog 52 #[FMat A n c P Q, .bool true] w (BadPost w) := by
  have HRW := Lib.hid hr
  obtain ⟨_, hm0, b, off, rfl, hb, hrow⟩ := hr
  have hm : n = rows.length := by rw [hm0]; exact List.length_map _
  clear hm0
  have z0 : Zero10 ((w.alloc (.cells #[.string ⟨#[]⟩, .float .f64 0, .string ⟨#[]⟩, .slice none 0 0, .slice (some ⟨b, off, none⟩) n c, .bool false, .string ⟨#[]⟩, .int .u8 4, .pointer (some ⟨P, 0, none⟩), .pointer (some ⟨Q, 0, none⟩)] 67)).alloc (.cells #[.string ⟨#[]⟩, .float .f64 0, .string ⟨#[]⟩, .slice none 0 0, .slice none 0 0, .bool false, .string ⟨#[]⟩, .int .u8 0, .pointer none, .pointer none] 67)) (w.heap.size + 1) := by
    have := Zero10.new (w.alloc (.cells #[.string ⟨#[]⟩, .float .f64 0, .string ⟨#[]⟩, .slice none 0 0, .slice (some ⟨b, off, none⟩) n c, .bool false, .string ⟨#[]⟩, .int .u8 4, .pointer (some ⟨P, 0, none⟩), .pointer (some ⟨Q, 0, none⟩)] 67))
    simpa using this
  have hbA : Below w.heap.size w ((w.alloc (.cells #[.string ⟨#[]⟩, .float .f64 0, .string ⟨#[]⟩, .slice none 0 0, .slice (some ⟨b, off, none⟩) n c, .bool false, .string ⟨#[]⟩, .int .u8 4, .pointer (some ⟨P, 0, none⟩), .pointer (some ⟨Q, 0, none⟩)] 67)).alloc (.cells #[.string ⟨#[]⟩, .float .f64 0, .string ⟨#[]⟩, .slice none 0 0, .slice none 0 0, .bool false, .string ⟨#[]⟩, .int .u8 0, .pointer none, .pointer none] 67)) := ((Below.refl _ _).alloc (Nat.le_refl _) _).alloc (by simp) _
  have hAt : DmAt w ((w.alloc (.cells #[.string ⟨#[]⟩, .float .f64 0, .string ⟨#[]⟩, .slice none 0 0, .slice (some ⟨b, off, none⟩) n c, .bool false, .string ⟨#[]⟩, .int .u8 4, .pointer (some ⟨P, 0, none⟩), .pointer (some ⟨Q, 0, none⟩)] 67)).alloc (.cells #[.string ⟨#[]⟩, .float .f64 0, .string ⟨#[]⟩, .slice none 0 0, .slice none 0 0, .bool false, .string ⟨#[]⟩, .int .u8 0, .pointer none, .pointer none] 67)) (.slice none 0 0) [] 0 := ⟨z0, hbA, by simp, rfl, Owns.nil_ _ _ _ _⟩
  have HAT := Lib.hid hAt
  have HROW := Lib.hid hrow
  have HM := Lib.hid (And.intro hm (And.intro hC hbad))
  have hmk := make_row n hn
  clear hm hrow z0 hbA hAt hC hbad
  unfold FMat
  go_enter Tryz.func52, Tryz.ntmps52
  go_wp2_with fail
  go_loopw [4, 17] (fun v i wr => ∃ (k : Nat) (y : Value) (Hs : List Value), k ≤ n ∧ i = .int .i64 k ∧ y = v ∧ DmAt w wr y Hs k ∧ ∀ r ∈ rows.take k, ∀ g ∈ r, tyOf g = 1) (fun _ i _ => n - (intOf i).toNat)
  case atStart => exact ⟨0, _, [], Nat.zero_le _, rfl, rfl, HAT.out, by simp⟩
  case round =>
    obtain ⟨k, y, Hs, hk, rfl, rfl, hAt, hall⟩ := hrel
    have HA := Lib.hid (And.intro hAt hall)
    clear hAt hall HAT
    by_cases hlt : k < n
    · obtain ⟨r, hr⟩ : ∃ r, rows[k]? = some r := ⟨_, List.getElem?_eq_getElem (by rw [← HM.out.1]; exact hlt)⟩
      obtain ⟨hh, hc, _, b2, off2, c2, rfl, hb2, hrow2⟩ := HROW.out k (inns r) (by rw [List.getElem?_map, hr]; rfl)
      have hrl : r.length = n := HM.out.2.1 r (List.mem_of_getElem? hr)
      have hl : (inns r).length = n := by rw [← hrl]; exact List.length_map _
      rw [hl] at hc
      have hc1 : wr.cell? ⟨b, off + k, none⟩ = some (.slice (some ⟨b2, off2, none⟩) n c2) := (HA.out.1.2.1.cell (p := ⟨b, off + k, none⟩) hb).trans hc
      have hsz := HA.out.1.2.2.1
      have hown1 : Owns (wr.alloc (.cells (zerosA n) 36)) (w.heap.size + 2) 95 1 y (Hs.map fun h => [h]) := HA.out.1.2.2.2.2.below ((Below.refl _ _).alloc (Nat.le_refl _) _)
      have hlk : (Hs.map fun h => [h]).length ≤ 1000000 := by rw [List.length_map, HA.out.1.2.2.2.1]; omega
      have HR2 := Lib.hid (And.intro hr (And.intro hrl (And.intro hb2 hrow2)))
      have hb2' : b2 < w.heap.size := hb2
      clear hr hc hl hrow2 hrl hb2
      go_wp2_with (at_builtin; refine wpList_append_box (wr.alloc (.cells (zerosA n) 36)) rfl (.tmp 30) (.tmp 34) 92 rfl (w.heap.size + 2) 95 _ 1 24 Tryz.underlying92 infoFlts rfl (by decide) y (Hs.map fun h => [h]) (by rfl) (by exact hown1) #[.slice (some ⟨wr.heap.size, 0, none⟩) n n] rfl 1 _ (by rfl) (by simp) (by exact one_slice _ _ _) hlk (by decide) (by simp; omega) ?_; intro v' w2 hown2 hg2 hat2 hbe2)
      have hne2 : v'.ownBlock = none ∨ v'.ownBlock ≠ some wr.heap.size := by
        rcases hat2 with h | h
        · rw [h]
          rcases HA.out.1.2.2.2.2.block_lt with hn | ⟨q, hq, _, hlt⟩
          · exact .inl hn
          · right; rw [hq]; intro hh; injection hh with hh; omega
        · right; rw [h]; intro hh; injection hh with hh; simp at hh; omega
      have hin : DmIn w w2 v' (Hs ++ [.slice (some ⟨wr.heap.size, 0, none⟩) n n]) wr.heap.size n := by
        have hBZ : Blk (wr.alloc (.cells (zerosA n) 36)) wr.heap.size 36 (zerosA n) := Blk.new _ _ _
        refine ⟨?_, ?_, ?_, ?_, zerosA n, zerosA_size n, ?_⟩
        · exact Blk.below (Zero10.below HA.out.1.1 ((Below.refl _ _).alloc (Nat.le_refl _) _)) hbe2 (by omega)
        · exact (HA.out.1.2.1.alloc HA.out.1.2.1.size _).trans (hbe2.mono (by omega))
        · have := hbe2.size; simp at this; omega
        · rw [List.map_append]; exact hown2
        · refine (hg2.block wr.heap.size (by simp only [World.size_alloc]; omega) ?_).trans (Blk.alloc hBZ _)
          rcases HA.out.1.2.2.2.2.block_lt with hn | ⟨q, hq, _, hlt⟩
          · rw [hn]; simp
          · rw [hq]; intro hh; injection hh with hh; omega
      have HIN := Lib.hid (And.intro hin hne2)
      obtain ⟨gg, capg, hv', _, hggl, _, _, _⟩ := hown2.row (by simp)
      have hlen2 : ((Hs.map fun h => [h]) ++ [#[Value.slice (some ⟨wr.heap.size, 0, none⟩) n n].toList]).length = k + 1 := by simp [HA.out.1.2.2.2.1]
      rw [hlen2] at hv'
      obtain ⟨gk, hgk⟩ : ∃ gk, gk = wr.heap.size := ⟨_, rfl⟩
      have hgk2 : w.heap.size + 2 ≤ gk := by omega
      have hHl := HA.out.1.2.2.2.1
      have HAL := Lib.hid (And.intro HA.out.2 hHl)
      rw [← hgk] at HIN
      clear hin hne2 hown2 hg2 hat2 hbe2 hlen2 hc1 hown1 hlk hHl HA
      subst hv'
      go_wp2_with fail
      rw [← hgk]
      clear hgk
      go_loopw [38] (fun i wq => ∃ q : Nat, q ≤ n ∧ i = .int .i64 q ∧ DmIn w wq (.slice (some ⟨gg, 0, none⟩) (k + 1) capg) (Hs ++ [.slice (some ⟨gk, 0, none⟩) n n]) gk n ∧ ∀ g ∈ r.take q, tyOf g = 1) (fun i _ => n - (intOf i).toNat)
      case atStart => exact ⟨0, Nat.zero_le _, rfl, HIN.out.1, by simp⟩
      case round =>
        obtain ⟨q, hq, rfl, hin, hall⟩ := hrel
        have HI := Lib.hid (And.intro hin hall)
        clear hin hall
        by_cases hqn : q < n
        · obtain ⟨g, hg⟩ : ∃ g, r[q]? = some g := ⟨_, List.getElem?_eq_getElem (by rw [HR2.out.2.1]; exact hqn)⟩
          obtain ⟨x, s, bo, er, _, hinn⟩ := g.form10t
          have hR := (HR2.out.2.2.2.below HI.out.1.2.1 hb2') q g.inn (by show (r.map Gl.inn)[q]? = _; rw [List.getElem?_map, hg]; rfl)
          rw [hinn] at hR
          have hlt2 : b2 < wr.heap.size := Nat.lt_of_lt_of_le hb2' HI.out.1.2.1.size
          have c0 : wr.cell? ⟨b2, off2 + q * 10, none⟩ = some (.string ⟨#[]⟩) := hR.2 0 _ rfl
          have c1 : wr.cell? ⟨b2, off2 + q * 10 + 1, none⟩ = some (.float .f64 x) := hR.2 1 _ rfl
          have c2 : wr.cell? ⟨b2, off2 + q * 10 + 2, none⟩ = some (.string s) := hR.2 2 _ rfl
          have c3 : wr.cell? ⟨b2, off2 + q * 10 + 3, none⟩ = some (.slice none 0 0) := hR.2 3 _ rfl
          have c4 : wr.cell? ⟨b2, off2 + q * 10 + 4, none⟩ = some (.slice none 0 0) := hR.2 4 _ rfl
          have c5 : wr.cell? ⟨b2, off2 + q * 10 + 5, none⟩ = some (.bool bo) := hR.2 5 _ rfl
          have c6 : wr.cell? ⟨b2, off2 + q * 10 + 6, none⟩ = some (.string er) := hR.2 6 _ rfl
          have c7 : wr.cell? ⟨b2, off2 + q * 10 + 7, none⟩ = some (.int .u8 (tyOf g)) := hR.2 7 _ rfl
          have c8 : wr.cell? ⟨b2, off2 + q * 10 + 8, none⟩ = some (.pointer none) := hR.2 8 _ rfl
          have c9 : wr.cell? ⟨b2, off2 + q * 10 + 9, none⟩ = some (.pointer none) := hR.2 9 _ rfl
          have HG := Lib.hid hg
          clear hg hR hinn
          by_cases ht : tyOf g = 1
          · rw [ht] at c7
            go_wp2_with fail
            obtain ⟨X, hX⟩ : ∃ X, X = wr.alloc (.cells #[.string ⟨#[]⟩, .float .f64 x, .string s, .slice none 0 0, .slice none 0 0, .bool bo, .string er, .int .u8 1, .pointer none, .pointer none] 67) := ⟨_, rfl⟩
            have hbX : Below wr.heap.size wr X := by rw [hX]; exact (Below.refl _ _).alloc (Nat.le_refl _) _
            have d1 : X.cell? ⟨wr.heap.size, 1, none⟩ = some (.float .f64 x) := by rw [hX]; simp [go_sem]
            have HI2 := Lib.hid (HI.out.1.below hbX)
            have d2 := (HI2.out.2.2.2.1.cellAt k (.slice (some ⟨gk, 0, none⟩) n n) (by rw [List.getElem?_map, List.getElem?_append_right (by rw [HAL.out.2]; exact Nat.le_refl _), HAL.out.2]; simp)).1
            obtain ⟨cs, hcs, hblk⟩ := HI2.out.2.2.2.2
            obtain ⟨u, d3⟩ : ∃ u, X.cell? ⟨gk, q, none⟩ = some u := ⟨_, (hblk.cell q).trans (Array.getElem?_eq_getElem (by rw [hcs]; exact hqn))⟩
            have d4 : X.frozen? ⟨gk, q, none⟩ = false := hblk.free q
            rw [← hX]
            clear hX hblk hcs c0 c1 c2 c3 c4 c5 c6 c7 c8 c9
            go_region
            go_wp2_with fail
            go_roundw
            case rel =>
              refine ⟨q + 1, by omega, by go_num, (HI2.out.put HIN.out.2 hgk2 _).below (Below.drew (Below.refl _ _)), ?_⟩
              intro g' hg'
              rw [List.take_add_one, HG.out] at hg'
              rcases List.mem_append.1 hg' with hg' | hg'
              · exact HI.out.2 g' hg'
              · simp at hg'; subst hg'; exact ht
            case measure => simp [intOf]; omega
          · have ht' : (tyOf g == 1) = false := by rw [beq_eq_false_iff_ne]; exact ht
            have HX := Lib.hid (HI.out.1.below ((Below.refl _ _).alloc (Nat.le_refl _) (.cells #[.string ⟨#[]⟩, .float .f64 x, .string s, .slice none 0 0, .slice none 0 0, .bool bo, .string er, .int .u8 (tyOf g), .pointer none, .pointer none] 67)))
            clear ht
            go_wp2_with fail
            refine (newError_any _ _ _).mono ?_
            rintro e w3 ⟨rfl, hb3⟩
            have hbw3 := HX.out.2.1.trans (hb3.mono HX.out.2.1.size)
            obtain ⟨zl, z0, z1, z2, z3, z4, z5, z6, z7, z8, z9, zf⟩ := (HX.out.1.below hb3).facts
            clear hb3 c0 c1 c2 c3 c4 c5 c6 c7 c8 c9
            go_wp2
            exact bodyPost_ret (v := (.tuple #[.slice (some ⟨gg, 0, none⟩) (k + 1) capg, (.agg #[.string ⟨#[]⟩, .float .f64 0, .string (⟨#[35, 86, 65, 76, 85, 69, 33]⟩ : ByteArray), .slice none 0 0, .slice none 0 0, .bool false, .string (⟨#[35, 86, 65, 76, 85, 69, 33]⟩ : ByteArray), .int .u8 5, .pointer none, .pointer none])])) (by simp [results, Tryz.results52, go_sem, zl, z0, z1, z2, z3, z4, z5, z6, z7, z8, z9, zf]) rfl ⟨_, rfl, below10 hbw3 (Nat.le_succ _)⟩
        · obtain rfl : q = n := by omega
          go_wp2_with fail
          go_roundw
          case rel =>
            refine ⟨k + 1, _, Hs ++ [.slice (some ⟨gk, 0, none⟩) q q], by omega, by go_num, rfl, ⟨HI.out.1.1, HI.out.1.2.1, HI.out.1.2.2.1, by rw [List.length_append, HAL.out.2]; rfl, HI.out.1.2.2.2.1⟩, ?_⟩
            intro r' hr'
            rw [List.take_add_one, HR2.out.1] at hr'
            rcases List.mem_append.1 hr' with hr' | hr'
            · exact HAL.out.1 r' hr'
            · simp at hr'; subst hr'
              have := HI.out.2
              rw [List.take_of_length_le (by rw [HR2.out.2.1]; exact Nat.le_refl _)] at this
              exact this
          case measure => simp [intOf]; omega
    · exfalso
      obtain rfl : k = n := by omega
      have hall := HA.out.2
      rw [List.take_of_length_le (by rw [HM.out.1]; exact Nat.le_refl _)] at hall
      have : (rows.flatten.all fun g => tyOf g == 1) = true := by
        rw [List.all_eq_true]
        intro g hg
        obtain ⟨r, hr, hgr⟩ := List.mem_flatten.1 hg
        simp [hall r hr g hgr]
      have h2 := HM.out.2.2
      rw [this] at h2
      cases h2

end Go.Proofs.YtdpkjhohklfieaaGreat
