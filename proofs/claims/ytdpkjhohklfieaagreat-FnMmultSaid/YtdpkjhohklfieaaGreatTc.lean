/- zzFits1, table: a table of cells. -/
import Derived.Test.YtdpkjhohklfieaaGreatTb
set_option linter.unusedSimpArgs false
set_option linter.unusedVariables false
namespace Go.Proofs.YtdpkjhohklfieaaGreat
open Go.RowKit
set_option maxRecDepth 100000
set_option maxHeartbeats 1000000

/-- A cell as plain data. -/
structure It where
  k : Int
  n : Int
  s : ByteArray
def It.cells (x : It) : List Value := [.int .i64 x.k, .int .i64 x.n, .string x.s]
def It.Ok (x : It) : Prop := (-9223372036854775808 ≤ x.k ∧ x.k ≤ 9223372036854775807) ∧ (-9223372036854775808 ≤ x.n ∧ x.n ≤ 9223372036854775807)
/-- A value of a cell. -/
def Fv.Cell (x : Fv) : Prop := x.Ok ∧ (x.k = 4 → x.s ∈ errNames) ∧ (x.k = 2 → x.s.size ≤ 2147483647) ∧ ((x.k = 0 ∨ x.k = 1 ∨ x.k = 3) → x.s = ⟨#[]⟩) ∧ (x.k ≠ 1 → x.d = 0) ∧ (x.k ≠ 1 → x.k ≠ 3 → x.n = 0)
theorem Fv.From.cell {s : ByteArray} {x : Fv} (h : x.From s) (hs : s.size ≤ 2147483647) : x.Cell := ⟨h.1, h.2.1, fun h2 => by rw [h.2.2.1 h2]; exact hs, h.2.2.2.1, h.2.2.2.2.1, h.2.2.2.2.2⟩

theorem fits2_any (k n : Int) (s : ByteArray) (w : World) :
    Calls Tryz.prog 20 #[.agg #[.int .i64 k, .int .i64 n, .string s]] w fun e w' => e = .returned (.bool (decide (s.size ≤ 2147483647))) ∧ Below w.heap.size w w' := by
  by_cases h : 2147483647 < s.size
  · rw [decide_eq_false (by omega)]
    go_enter Tryz.func20, Tryz.ntmps20
    go_wp2
    go_ret
    exact ⟨rfl, (by (repeat' (first | with_reducible exact Below.refl _ _ | with_reducible refine Below.setCell ?_ ?_ _ | with_reducible refine Below.alloc ?_ ?_ _ | with_reducible refine Below.drew ?_ | with_reducible refine Below.trans ?_ (Below.mono (by assumption) ?_))); all_goals (first | omega | (simp [World.setCell]; done) | (simp [World.setCell]; omega)))⟩
  · rw [decide_eq_true (by omega)]
    go_enter Tryz.func20, Tryz.ntmps20
    go_wp2
    go_ret
    exact ⟨rfl, (by (repeat' (first | with_reducible exact Below.refl _ _ | with_reducible refine Below.setCell ?_ ?_ _ | with_reducible refine Below.alloc ?_ ?_ _ | with_reducible refine Below.drew ?_ | with_reducible refine Below.trans ?_ (Below.mono (by assumption) ?_))); all_goals (first | omega | (simp [World.setCell]; done) | (simp [World.setCell]; omega)))⟩

def FitsPost (X : List It) (w : World) (e : Ending) (w' : World) : Prop := ∃ b : Bool, e = .returned (.bool b) ∧ (b = true → ∀ x ∈ X, x.s.size ≤ 2147483647) ∧ Below w.heap.size w w'

theorem fits1_any (A : Option Addr) (c : Nat) (X : List It) (w : World) (hsrc : Src w w.heap.size A 3 (X.map It.cells)) (hlen : X.length ≤ 9223372036854775807) :
    Calls Tryz.prog 8 #[.slice A X.length c] w (FitsPost X w) := by
  obtain ⟨n, hn⟩ : ∃ n, n = X.length := ⟨_, rfl⟩
  rw [← hn]
  rw [← hn] at hlen
  have HN := Lib.hid hn
  clear hn
  by_cases hbig : 2147483647 < n
  · go_enter Tryz.func8, Tryz.ntmps8
    go_wp2
    go_ret
    exact ⟨false, rfl, by simp, Below.refl _ _⟩
  · go_enter Tryz.func8, Tryz.ntmps8
    go_wp2_with fail
    go_loopw [10] (fun i wr => ∃ k : Nat, k ≤ n ∧ i = .int .i64 k ∧ Below w.heap.size w wr ∧ ∀ x ∈ X.take k, x.s.size ≤ 2147483647) (fun i _ => n - (intOf i).toNat)
    case atStart => exact ⟨0, Nat.zero_le _, rfl, Below.refl _ _, by simp⟩
    case round =>
      obtain ⟨k, hk, rfl, hbe, hall⟩ := hrel
      have HALL := Lib.hid hall
      clear hall
      by_cases hlt : k < n
      · obtain ⟨x, hx⟩ : ∃ x, X[k]? = some x := ⟨_, List.getElem?_eq_getElem (by rw [← HN.out]; exact hlt)⟩
        rcases hsrc with hnil | ⟨b, off, rfl, hb, hrow⟩
        · exfalso
          have : X = [] := by simpa using hnil
          subst this
          simp at hx
        have hR := (hrow.below hbe hb) k x.cells (by simp [hx])
        have c0 : wr.cell? ⟨b, off + k * 3, none⟩ = some (.int .i64 x.k) := hR.2 0 _ rfl
        have c1 : wr.cell? ⟨b, off + k * 3 + 1, none⟩ = some (.int .i64 x.n) := hR.2 1 _ rfl
        have c2 : wr.cell? ⟨b, off + k * 3 + 2, none⟩ = some (.string x.s) := hR.2 2 _ rfl
        have HX := Lib.hid hx
        have hsz := hbe.size
        clear hx hR hrow
        by_cases hs : x.s.size ≤ 2147483647
        · go_wp2_with fail
          refine (fits2_any _ _ _ _).mono ?_
          rw [decide_eq_true hs]
          rintro e w1 ⟨rfl, hb1⟩
          have hbw1 : Below w.heap.size w w1 := (hbe.alloc hsz _).trans (hb1.mono (by simp; omega))
          have hfin : ∀ y ∈ X.take (k + 1), y.s.size ≤ 2147483647 := by
            intro y hy
            rw [List.take_add_one, HX.out] at hy
            rcases List.mem_append.1 hy with h | h
            · exact HALL.out y h
            · simp at h; subst h; exact hs
          have HF := Lib.hid hfin
          clear hfin hs hbe hb1 c0 c1 c2
          go_wp2_with fail
          go_roundw
          case rel => exact ⟨k + 1, by omega, by go_num, hbw1, HF.out⟩
          case measure => simp [intOf]; omega
        · go_wp2_with fail
          refine (fits2_any _ _ _ _).mono ?_
          rw [decide_eq_false hs]
          rintro e w1 ⟨rfl, hb1⟩
          have hbw1 : Below w.heap.size w w1 := (hbe.alloc hsz _).trans (hb1.mono (by simp; omega))
          clear c0 c1 c2 hbe hb1
          go_wp2
          go_ret
          exact ⟨false, rfl, by simp, hbw1⟩
      · have hkn : k = n := by omega
        subst hkn
        go_wp2
        go_ret
        refine ⟨true, rfl, fun _ => ?_, hbe⟩
        have := HALL.out
        rwa [List.take_of_length_le (by rw [HN.out]; exact Nat.le_refl _)] at this

/-- Rows of cells, all of the same length. -/
def Rect (rows : List (List Fv)) : Prop := rows ≠ [] ∧ rows.length ≤ 120 ∧ ∃ C : Nat, 1 ≤ C ∧ C ≤ 6 ∧ ∀ r ∈ rows, r.length = C ∧ ∀ x ∈ r, x.Cell
def TablePost (w : World) (e : Ending) (w' : World) : Prop :=
  ∃ (A : Option Addr) (m c : Nat) (rows : List (List Fv)), e = .returned (.agg #[.int .i64 5, .int .i64 0, .int .i64 0, .string ⟨#[]⟩, .slice A m c]) ∧ RowsIs 5 w' (New w.heap.size w') A m (rows.map fvs) ∧ Rect rows ∧ Below w.heap.size w w'

theorem Owns.put {w : World} {base : Nat} {e : TypeId} {size : Nat} {v : Value} {cs : List (List Value)} (h : Owns w base e size v cs) {p : Addr} (hp : v.ownBlock = none ∨ v.ownBlock ≠ some p.block) (u : Value) : Owns (w.setCell p u) base e size v cs :=
  h.grown (row := some p.block) ⟨rfl, rfl, rfl, by simp [size_setCell], fun k _ hne => Below.heap_setCell w p u k (fun h => hne (by rw [h]))⟩ hp
theorem Owns.put5 {w : World} {base : Nat} {e : TypeId} {size B : Nat} {v a b c d f : Value} {cs : List (List Value)} (h : Owns w base e size v cs) (hp : v.ownBlock = none ∨ v.ownBlock ≠ some B) :
    Owns (((((w.setCell ⟨B, 0, none⟩ a).setCell ⟨B, 1, none⟩ b).setCell ⟨B, 2, none⟩ c).setCell ⟨B, 3, none⟩ d).setCell ⟨B, 4, none⟩ f) base e size v cs :=
  ((((h.put (p := ⟨B, 0, none⟩) hp a).put (p := ⟨B, 1, none⟩) hp b).put (p := ⟨B, 2, none⟩) hp c).put (p := ⟨B, 3, none⟩) hp d).put (p := ⟨B, 4, none⟩) hp f
theorem Owns.other {w : World} {base : Nat} {e : TypeId} {size B : Nat} {v : Value} {cs : List (List Value)} (h : Owns w base e size v cs) (hB : w.heap.size ≤ B) : v.ownBlock = none ∨ v.ownBlock ≠ some B := by
  rcases h.block_lt with hn | ⟨g, hg, _, hlt⟩
  · exact .inl hn
  · right; rw [hg]; intro he; injection he with he; omega
theorem below5 {W w : World} {b0 B : Nat} {a b c d f : Value} (h : Below b0 W w) (hB : b0 ≤ B) :
    Below b0 W (((((w.setCell ⟨B, 0, none⟩ a).setCell ⟨B, 1, none⟩ b).setCell ⟨B, 2, none⟩ c).setCell ⟨B, 3, none⟩ d).setCell ⟨B, 4, none⟩ f) :=
  ((((h.setCell (p := ⟨B, 0, none⟩) hB a).setCell (p := ⟨B, 1, none⟩) hB b).setCell (p := ⟨B, 2, none⟩) hB c).setCell (p := ⟨B, 3, none⟩) hB d).setCell (p := ⟨B, 4, none⟩) hB f
theorem cell_zero : (⟨0, 0, 0, ⟨#[]⟩⟩ : Fv).Cell := ⟨.inl (.inl rfl), by simp, by simp, by simp, by simp, by simp⟩
theorem cell_snoc {r : List Fv} {x : Fv} (h : ∀ y ∈ r, y.Cell) (hx : x.Cell) : ∀ y ∈ r ++ [x], y.Cell := by
  intro y hy
  rcases List.mem_append.1 hy with hy | hy
  · exact h y hy
  · simp at hy; subst hy; exact hx
theorem rows_snoc {M : List (List Fv)} {r : List Fv} {C : Nat} (h : ∀ r ∈ M, r.length = C ∧ ∀ x ∈ r, x.Cell) (h1 : r.length = C) (h2 : ∀ x ∈ r, x.Cell) : ∀ r' ∈ M ++ [r], r'.length = C ∧ ∀ x ∈ r', x.Cell := by
  intro r' hr
  rcases List.mem_append.1 hr with hr | hr
  · exact h r' hr
  · simp at hr; subst hr; exact ⟨h1, h2⟩
theorem infoVs : ((Tryz.prog.info? 29)).map (fun i => (i.zero, i.size, i.bytes)) = some (some (.slice none 0 0), 1, 24) := by kernel_rfl
def TabAt (w wr : World) : Prop := Blk wr w.heap.size 27 #[.int .i64 0, .int .i64 0, .int .i64 0, .string ⟨#[]⟩, .slice none 0 0] ∧ Below w.heap.size w wr
def RowAt (wo wq : World) (q : Nat) (z : Value) : Prop := ∃ r : List Fv, Below wo.heap.size wo wq ∧ r.length = q ∧ (∀ x ∈ r, x.Cell) ∧ Owns wq wo.heap.size 27 5 z (fvs r)
def TabRel (C0 : Nat) (w wr : World) (k : Nat) (y : Value) : Prop := ∃ (G : List Value) (M : List (List Fv)), TabAt w wr ∧ M.length = k ∧ (∀ r ∈ M, r.length = 1 + C0 ∧ ∀ x ∈ r, x.Cell) ∧ (KRow 5).Many wr (w.heap.size + 1) 29 1 y G (M.map fvs)
theorem TabAt.step {w wr w2 : World} (h : TabAt w wr) (hb : Below (w.heap.size + 1) wr w2) : TabAt w w2 := ⟨h.1.below hb (by omega), h.2.trans (hb.mono (by omega))⟩
theorem tab_zero {w wr : World} (h : TabAt w wr) : Zero5 wr w.heap.size := ⟨h.1.lt, h.1.cell 0, h.1.cell 1, h.1.cell 2, h.1.cell 3, h.1.cell 4, fun o => h.1.free o⟩
theorem ne_new1 (w w4 : World) : ∀ k, New (w.heap.size + 1) w4 k → k ≠ w.heap.size := fun k hk => by have := hk.1; omega

set_option maxHeartbeats 4000000 in
theorem tableOf_few (A : Option Addr) (c : Nat) (X : List It) (cols : Int) (w : World) (hsrc : Src w w.heap.size A 3 (X.map It.cells)) (hlen : X.length ≤ 9223372036854775807) (hlc : X.length ≤ c) (hc : c ≤ 9223372036854775807)
    (hok : ∀ x ∈ X, x.Ok ∧ x.s.size ≤ 2147483647) (h1 : -9223372036854775808 ≤ cols) (h2 : cols ≤ 9223372036854775807) (hbig : X.length ≤ 120) :
    Calls Tryz.prog 9 #[.slice A X.length c, .int .i64 cols] w (TablePost w) := by
  obtain ⟨n, hn⟩ : ∃ n, n = X.length := ⟨_, rfl⟩
  rw [← hn] at hbig
  rw [← hn]
  rw [← hn] at hlen hlc
  have HN := Lib.hid hn
  have HO := Lib.hid hok
  have HSRC := Lib.hid hsrc
  have HC := Lib.hid (And.intro h1 h2)
  clear hn hok hsrc h1 h2
  obtain ⟨C0, hC0⟩ : ∃ C0 : Nat, cols % 6 = (C0 : Int) := ⟨(cols % 6).toNat, by omega⟩
  have hC5 : C0 ≤ 5 := by omega
  have HC0 := Lib.hid hC0
  clear hC0
  obtain ⟨R, hR⟩ : ∃ R : Nat, R = n / (1 + C0) := ⟨_, rfl⟩
  have hRl : R ≤ 120 := by rw [hR]; exact Nat.le_trans (Nat.div_le_self _ _) (by omega)
  have hRq : (n : Int) / (1 + (C0 : Int)) = (R : Int) := by rw [hR]; simp
  clear hR
  go_enter Tryz.func9, Tryz.ntmps9
  go_wp2_with fail
  refine (part_any cols 6 _ (.inl rfl) HC.out.1 HC.out.2).mono ?_
  rw [HC0.out]
  rintro e w0 ⟨rfl, rfl⟩
  by_cases hR0 : R = 0
  · subst hR0
    go_wp2_with fail
    go_loopw [6, 7] (fun v i wr => ∃ (k : Nat) (y : Value), k ≤ 1 ∧ i = .int .i64 k ∧ y = v ∧ TabRel C0 w wr k y) (fun _ i _ => 1 - (intOf i).toNat)
    case atStart => exact ⟨0, _, Nat.zero_le _, rfl, rfl, [], [], ⟨Blk.new w _ _, (Below.refl _ _).alloc (Nat.le_refl _) _⟩, rfl, by simp, Kind.Many.nil _ _ _ _⟩
    case round =>
      obtain ⟨k, y, hk, rfl, rfl, G, M, hat, hML, hMok, hmany⟩ := hrel
      have HA := Lib.hid hat
      have HM := Lib.hid hmany
      have HML := Lib.hid (And.intro hML hMok)
      clear hat hmany hML hMok
      have hwb : w.heap.size < wr.heap.size := HA.out.1.lt
      by_cases hlt : k < 1
      · obtain ⟨P, hP⟩ : ∃ P : Nat, P = k * (1 + C0) := ⟨_, rfl⟩
        have hPl : P ≤ 120 * 6 := by rw [hP]; exact Nat.mul_le_mul (by omega) (by omega)
        have hPe : (k : Int) * (1 + (C0 : Int)) = (P : Int) := by rw [hP]; simp
        clear hP
        go_wp2_with fail
        obtain ⟨wo, rfl⟩ : ∃ wo : World, wo = wr := ⟨_, rfl⟩
        go_loopw [8, 9] (fun v i wq => ∃ (q : Nat) (z : Value), q ≤ 1 + C0 ∧ i = .int .i64 q ∧ z = v ∧ RowAt wo wq q z) (fun _ i _ => 1 + C0 - (intOf i).toNat)
        case atStart => exact ⟨0, _, Nat.zero_le _, rfl, rfl, [], Below.refl _ _, rfl, by simp, Owns.nil_ _ _ _ _⟩
        case round =>
          obtain ⟨q, zz, hq, rfl, rfl, r, hbq, hrl, hrok, hownq⟩ := hrel
          have HOQ := Lib.hid hownq
          have HRL := Lib.hid (And.intro hrl hrok)
          have hszq := hbq.size
          have hlk : (fvs r).length ≤ 1000000 := by unfold fvs; rw [List.length_map]; omega
          clear hownq hrl hrok
          by_cases hqc : q < 1 + C0
          · by_cases hin : P + q < n
            · obtain ⟨x, hx⟩ : ∃ x, X[P + q]? = some x := ⟨_, List.getElem?_eq_getElem (by rw [← HN.out]; omega)⟩
              rcases HSRC.out with hnil | ⟨b, off, rfl, hb, hrow⟩
              · exfalso
                have : X = [] := by simpa using hnil
                subst this
                simp at hx
              have hbw : Below w.heap.size w wr := HA.out.2.trans (hbq.mono HA.out.2.size)
              have hR := (hrow.below hbw hb) (P + q) x.cells (by simp [hx])
              have c0 : wr.cell? ⟨b, off + (P + q) * 3, none⟩ = some (.int .i64 x.k) := hR.2 0 _ rfl
              have c1 : wr.cell? ⟨b, off + (P + q) * 3 + 1, none⟩ = some (.int .i64 x.n) := hR.2 1 _ rfl
              have c2 : wr.cell? ⟨b, off + (P + q) * 3 + 2, none⟩ = some (.string x.s) := hR.2 2 _ rfl
              have HXO := Lib.hid (HO.out x (List.mem_of_getElem? hx))
              have hbr : b < wr.heap.size := Nat.lt_of_lt_of_le hb hbw.size
              have z0 := Zero5.new wr
              have Z0 := Lib.hid z0
              clear hx hR hrow hbw z0
              go_wp2_with fail
              refine (val_any _ _ _ _ HXO.out.1.1.1 HXO.out.1.1.2 HXO.out.1.2.1 HXO.out.1.2.2).mono ?_
              rintro e w1 ⟨v, hv, rfl, hb1⟩
              have HV := Lib.hid (hv.cell HXO.out.2)
              obtain ⟨z, q0, q1, q2, q3, q4, qf⟩ := Z0.out.below hb1
              have hz1 := hb1.size
              simp only [World.size_alloc] at hz1
              have hbq1 : Below wo.heap.size wo w1 := (hbq.alloc hszq _).trans (hb1.mono (by simp; omega))
              have hown1 : Owns w1 wo.heap.size 27 5 zz (fvs r) := (HOQ.out.below ((Below.refl _ _).alloc (Nat.le_refl _) _)).below hb1
              have hnz : zz.ownBlock = none ∨ zz.ownBlock ≠ some wr.heap.size := HOQ.out.other (Nat.le_refl _)
              clear hv c0 c1 c2 hb1
              go_wp2_with (at_builtin; refine wpList_append_box _ rfl (.tmp 51) (.tmp 53) 29 rfl wo.heap.size 27 _ 5 64 Tryz.underlying29 infoV rfl (by decide) _ (fvs r) (by rfl) (by exact hown1.put5 hnz) #[.int .i64 v.k, .int .i64 v.n, .int .i64 v.d, .string v.s, .slice none 0 0] rfl 1 _ (by rfl) (by simp [size_setCell]) (by exact v.one) hlk (by decide) (by simp only [size_setCell]; omega) ?_; intro v' w2 hown2 hg2 hat2 hbe2)
              have hbf := (below5 hbq1 (B := wr.heap.size) hszq).trans hbe2
              have HBF := Lib.hid hbf
              clear hbf
              go_roundw
              case rel => first | exact ⟨q + 1, _, by omega, by go_num, rfl, r ++ [v], HBF.out, by rw [List.length_append, HRL.out.1]; rfl, cell_snoc HRL.out.2 HV.out, by unfold fvs at hown2 ⊢; rw [List.map_append]; exact hown2⟩ | exact ⟨q + 1, by omega, by go_num, r ++ [v], HBF.out, by rw [List.length_append, HRL.out.1]; rfl, cell_snoc HRL.out.2 HV.out, by unfold fvs at hown2 ⊢; rw [List.map_append]; exact hown2⟩
              case measure => simp [intOf]; omega
            · have hown1 : Owns (wr.alloc (.cells #[.int .i64 0, .int .i64 0, .int .i64 0, .string ⟨#[]⟩, .slice none 0 0] 27)) wo.heap.size 27 5 zz (fvs r) := HOQ.out.below ((Below.refl _ _).alloc (Nat.le_refl _) _)
              go_wp2_with (at_builtin; refine wpList_append_box _ rfl (.tmp 51) (.tmp 53) 29 rfl wo.heap.size 27 _ 5 64 Tryz.underlying29 infoV rfl (by decide) zz (fvs r) (by rfl) (by exact hown1) #[.int .i64 0, .int .i64 0, .int .i64 0, .string ⟨#[]⟩, .slice none 0 0] rfl 1 _ (by rfl) (by simp) (by exact Fv.one ⟨0, 0, 0, ⟨#[]⟩⟩) hlk (by decide) (by simp; omega) ?_; intro v' w2 hown2 hg2 hat2 hbe2)
              have HBF := Lib.hid ((hbq.alloc hszq _).trans hbe2)
              go_roundw
              case rel => first | exact ⟨q + 1, _, by omega, by go_num, rfl, r ++ [⟨0, 0, 0, ⟨#[]⟩⟩], HBF.out, by rw [List.length_append, HRL.out.1]; rfl, cell_snoc HRL.out.2 cell_zero, by unfold fvs at hown2 ⊢; rw [List.map_append]; exact hown2⟩ | exact ⟨q + 1, by omega, by go_num, r ++ [⟨0, 0, 0, ⟨#[]⟩⟩], HBF.out, by rw [List.length_append, HRL.out.1]; rfl, cell_snoc HRL.out.2 cell_zero, by unfold fvs at hown2 ⊢; rw [List.map_append]; exact hown2⟩
              case measure => simp [intOf]; omega
          · have hqe : q = 1 + C0 := by omega
            subst hqe
            have hrow1 : RowIs 5 wr (New wo.heap.size wr) zz (fvs r) := HOQ.out.rowIs (by intro h; have := HRL.out.1; rw [show r = [] by simpa [fvs] using h] at this; simp at this <;> omega)
            obtain ⟨h0, g5, off5, c5, rfl, hS5, hrow5⟩ := hrow1
            have hle : (fvs r).length = 1 + C0 := by rw [fvs, List.length_map]; exact HRL.out.1
            rw [hle]
            have HR5 : Hid (RowIs 5 wr (New wo.heap.size wr) (.slice (some ⟨g5, off5, none⟩) (1 + C0) c5) (fvs r)) := Lib.hid ⟨h0, g5, off5, c5, by rw [hle], hS5, hrow5⟩
            have hown1 : Owns wr (w.heap.size + 1) 29 1 y (G.map (KRow 5).cells) := (HM.out.below hbq).1
            have hlk2 : (G.map (KRow 5).cells).length ≤ 1000000 := by rw [List.length_map, HM.out.len, List.length_map, HML.out.1]; omega
            clear h0 hS5 hrow5 hle
            go_wp2_with (at_builtin; refine wpList_append_box wr rfl (.tmp 55) (.tmp 57) 25 rfl (w.heap.size + 1) 29 _ 1 24 Tryz.underlying25 infoVs rfl (by decide) y (G.map (KRow 5).cells) (by rfl) (by exact hown1) #[.slice (some ⟨g5, off5, none⟩) (1 + C0) c5] rfl 1 _ (by rfl) (by simp) (by exact one_slice _ _ _) hlk2 (by decide) (by omega) ?_; intro v' w2 hown2 hg2 hat2 hbe2)
            have hpush := HM.out.push (K := KRow 5) (g := .slice (some ⟨g5, off5, none⟩) (1 + C0) c5) (m := fvs r) (by omega) hbq HR5.out hown2 hg2 (hat2.elim .inl fun h => .inr ⟨_, h, by simp⟩)
            have HPU := Lib.hid hpush
            clear hpush
            go_roundw
            case rel => first | exact ⟨k + 1, _, by omega, by go_num, rfl, G ++ [.slice (some ⟨g5, off5, none⟩) (1 + C0) c5], M ++ [r], HA.out.step HPU.out.2, by rw [List.length_append, HML.out.1]; rfl, rows_snoc HML.out.2 HRL.out.1 HRL.out.2, by rw [List.map_append]; exact HPU.out.1⟩ | exact ⟨k + 1, by omega, by go_num, G ++ [.slice (some ⟨g5, off5, none⟩) (1 + C0) c5], M ++ [r], HA.out.step HPU.out.2, by rw [List.length_append, HML.out.1]; rfl, rows_snoc HML.out.2 HRL.out.1 HRL.out.2, by rw [List.map_append]; exact HPU.out.1⟩
            case measure => simp [intOf]; omega
      · obtain rfl : k = 1 := by omega
        obtain ⟨g, cap, rfl, hg, hrs⟩ := rows_out HM.out (by intro h; have := HML.out.1; rw [show M = [] by simpa using h] at this; simp at this <;> omega)
        have HS := Lib.hid hrs
        have HK := Lib.hid hg
        clear hrs hg
        go_wp2_with fail
        refine (table_any _ _ _ _).mono ?_
        rintro e w1 ⟨rfl, hb1⟩
        have z0 := (tab_zero HA.out).below hb1
        obtain ⟨z, q0, q1, q2, q3, q4, qf⟩ := z0
        have HBW := Lib.hid (HA.out.2.trans (hb1.mono HA.out.2.size))
        have HRS : Hid (RowsIs 5 w1 (New (w.heap.size + 1) w1) (some ⟨g, 0, none⟩) (M.map fvs).length (M.map fvs)) := Lib.hid ((HS.out.keep (Keep.below hb1 fun _ hq => hq.2)).more fun q hq => ⟨hq.1, Nat.lt_of_lt_of_le hq.2 hb1.size⟩)
        clear hb1
        go_wp2
        exact bodyPost_ret (v := (.agg #[.int .i64 5, .int .i64 0, .int .i64 0, .string ⟨#[]⟩, .slice (some ⟨g, 0, none⟩) (M.map fvs).length cap])) (by simp [results, Tryz.results9, go_sem, z, q0, q1, q2, q3, q4, qf]) rfl ⟨_, _, cap, M, rfl, (HRS.out.keep (by repeat' (first | with_reducible exact Keep.refl _ _ | with_reducible refine Keep.set ?_ (ne_new1 _ _) _))).more (fun q hq => ⟨by have := hq.1; omega, by simp only [size_setCell]; exact hq.2⟩), ⟨by intro h; have := HML.out.1; rw [h] at this; simp at this <;> omega, by rw [HML.out.1]; omega, 1 + C0, by omega, by omega, HML.out.2⟩, below5 HBW.out (Nat.le_refl _)⟩
  · have hR0' : ((R : Int) == 0) = false := by simpa using hR0
    go_wp2_with fail
    go_loopw [6, 7] (fun v i wr => ∃ (k : Nat) (y : Value), k ≤ R ∧ i = .int .i64 k ∧ y = v ∧ TabRel C0 w wr k y) (fun _ i _ => R - (intOf i).toNat)
    case atStart => exact ⟨0, _, Nat.zero_le _, rfl, rfl, [], [], ⟨Blk.new w _ _, (Below.refl _ _).alloc (Nat.le_refl _) _⟩, rfl, by simp, Kind.Many.nil _ _ _ _⟩
    case round =>
      obtain ⟨k, y, hk, rfl, rfl, G, M, hat, hML, hMok, hmany⟩ := hrel
      have HA := Lib.hid hat
      have HM := Lib.hid hmany
      have HML := Lib.hid (And.intro hML hMok)
      clear hat hmany hML hMok
      have hwb : w.heap.size < wr.heap.size := HA.out.1.lt
      by_cases hlt : k < R
      · obtain ⟨P, hP⟩ : ∃ P : Nat, P = k * (1 + C0) := ⟨_, rfl⟩
        have hPl : P ≤ 120 * 6 := by rw [hP]; exact Nat.mul_le_mul (by omega) (by omega)
        have hPe : (k : Int) * (1 + (C0 : Int)) = (P : Int) := by rw [hP]; simp
        clear hP
        go_wp2_with fail
        obtain ⟨wo, rfl⟩ : ∃ wo : World, wo = wr := ⟨_, rfl⟩
        go_loopw [8, 9] (fun v i wq => ∃ (q : Nat) (z : Value), q ≤ 1 + C0 ∧ i = .int .i64 q ∧ z = v ∧ RowAt wo wq q z) (fun _ i _ => 1 + C0 - (intOf i).toNat)
        case atStart => exact ⟨0, _, Nat.zero_le _, rfl, rfl, [], Below.refl _ _, rfl, by simp, Owns.nil_ _ _ _ _⟩
        case round =>
          obtain ⟨q, zz, hq, rfl, rfl, r, hbq, hrl, hrok, hownq⟩ := hrel
          have HOQ := Lib.hid hownq
          have HRL := Lib.hid (And.intro hrl hrok)
          have hszq := hbq.size
          have hlk : (fvs r).length ≤ 1000000 := by unfold fvs; rw [List.length_map]; omega
          clear hownq hrl hrok
          by_cases hqc : q < 1 + C0
          · by_cases hin : P + q < n
            · obtain ⟨x, hx⟩ : ∃ x, X[P + q]? = some x := ⟨_, List.getElem?_eq_getElem (by rw [← HN.out]; omega)⟩
              rcases HSRC.out with hnil | ⟨b, off, rfl, hb, hrow⟩
              · exfalso
                have : X = [] := by simpa using hnil
                subst this
                simp at hx
              have hbw : Below w.heap.size w wr := HA.out.2.trans (hbq.mono HA.out.2.size)
              have hR := (hrow.below hbw hb) (P + q) x.cells (by simp [hx])
              have c0 : wr.cell? ⟨b, off + (P + q) * 3, none⟩ = some (.int .i64 x.k) := hR.2 0 _ rfl
              have c1 : wr.cell? ⟨b, off + (P + q) * 3 + 1, none⟩ = some (.int .i64 x.n) := hR.2 1 _ rfl
              have c2 : wr.cell? ⟨b, off + (P + q) * 3 + 2, none⟩ = some (.string x.s) := hR.2 2 _ rfl
              have HXO := Lib.hid (HO.out x (List.mem_of_getElem? hx))
              have hbr : b < wr.heap.size := Nat.lt_of_lt_of_le hb hbw.size
              have z0 := Zero5.new wr
              have Z0 := Lib.hid z0
              clear hx hR hrow hbw z0
              go_wp2_with fail
              refine (val_any _ _ _ _ HXO.out.1.1.1 HXO.out.1.1.2 HXO.out.1.2.1 HXO.out.1.2.2).mono ?_
              rintro e w1 ⟨v, hv, rfl, hb1⟩
              have HV := Lib.hid (hv.cell HXO.out.2)
              obtain ⟨z, q0, q1, q2, q3, q4, qf⟩ := Z0.out.below hb1
              have hz1 := hb1.size
              simp only [World.size_alloc] at hz1
              have hbq1 : Below wo.heap.size wo w1 := (hbq.alloc hszq _).trans (hb1.mono (by simp; omega))
              have hown1 : Owns w1 wo.heap.size 27 5 zz (fvs r) := (HOQ.out.below ((Below.refl _ _).alloc (Nat.le_refl _) _)).below hb1
              have hnz : zz.ownBlock = none ∨ zz.ownBlock ≠ some wr.heap.size := HOQ.out.other (Nat.le_refl _)
              clear hv c0 c1 c2 hb1
              go_wp2_with (at_builtin; refine wpList_append_box _ rfl (.tmp 51) (.tmp 53) 29 rfl wo.heap.size 27 _ 5 64 Tryz.underlying29 infoV rfl (by decide) _ (fvs r) (by rfl) (by exact hown1.put5 hnz) #[.int .i64 v.k, .int .i64 v.n, .int .i64 v.d, .string v.s, .slice none 0 0] rfl 1 _ (by rfl) (by simp [size_setCell]) (by exact v.one) hlk (by decide) (by simp only [size_setCell]; omega) ?_; intro v' w2 hown2 hg2 hat2 hbe2)
              have hbf := (below5 hbq1 (B := wr.heap.size) hszq).trans hbe2
              have HBF := Lib.hid hbf
              clear hbf
              go_roundw
              case rel => first | exact ⟨q + 1, _, by omega, by go_num, rfl, r ++ [v], HBF.out, by rw [List.length_append, HRL.out.1]; rfl, cell_snoc HRL.out.2 HV.out, by unfold fvs at hown2 ⊢; rw [List.map_append]; exact hown2⟩ | exact ⟨q + 1, by omega, by go_num, r ++ [v], HBF.out, by rw [List.length_append, HRL.out.1]; rfl, cell_snoc HRL.out.2 HV.out, by unfold fvs at hown2 ⊢; rw [List.map_append]; exact hown2⟩
              case measure => simp [intOf]; omega
            · have hown1 : Owns (wr.alloc (.cells #[.int .i64 0, .int .i64 0, .int .i64 0, .string ⟨#[]⟩, .slice none 0 0] 27)) wo.heap.size 27 5 zz (fvs r) := HOQ.out.below ((Below.refl _ _).alloc (Nat.le_refl _) _)
              go_wp2_with (at_builtin; refine wpList_append_box _ rfl (.tmp 51) (.tmp 53) 29 rfl wo.heap.size 27 _ 5 64 Tryz.underlying29 infoV rfl (by decide) zz (fvs r) (by rfl) (by exact hown1) #[.int .i64 0, .int .i64 0, .int .i64 0, .string ⟨#[]⟩, .slice none 0 0] rfl 1 _ (by rfl) (by simp) (by exact Fv.one ⟨0, 0, 0, ⟨#[]⟩⟩) hlk (by decide) (by simp; omega) ?_; intro v' w2 hown2 hg2 hat2 hbe2)
              have HBF := Lib.hid ((hbq.alloc hszq _).trans hbe2)
              go_roundw
              case rel => first | exact ⟨q + 1, _, by omega, by go_num, rfl, r ++ [⟨0, 0, 0, ⟨#[]⟩⟩], HBF.out, by rw [List.length_append, HRL.out.1]; rfl, cell_snoc HRL.out.2 cell_zero, by unfold fvs at hown2 ⊢; rw [List.map_append]; exact hown2⟩ | exact ⟨q + 1, by omega, by go_num, r ++ [⟨0, 0, 0, ⟨#[]⟩⟩], HBF.out, by rw [List.length_append, HRL.out.1]; rfl, cell_snoc HRL.out.2 cell_zero, by unfold fvs at hown2 ⊢; rw [List.map_append]; exact hown2⟩
              case measure => simp [intOf]; omega
          · have hqe : q = 1 + C0 := by omega
            subst hqe
            have hrow1 : RowIs 5 wr (New wo.heap.size wr) zz (fvs r) := HOQ.out.rowIs (by intro h; have := HRL.out.1; rw [show r = [] by simpa [fvs] using h] at this; simp at this <;> omega)
            obtain ⟨h0, g5, off5, c5, rfl, hS5, hrow5⟩ := hrow1
            have hle : (fvs r).length = 1 + C0 := by rw [fvs, List.length_map]; exact HRL.out.1
            rw [hle]
            have HR5 : Hid (RowIs 5 wr (New wo.heap.size wr) (.slice (some ⟨g5, off5, none⟩) (1 + C0) c5) (fvs r)) := Lib.hid ⟨h0, g5, off5, c5, by rw [hle], hS5, hrow5⟩
            have hown1 : Owns wr (w.heap.size + 1) 29 1 y (G.map (KRow 5).cells) := (HM.out.below hbq).1
            have hlk2 : (G.map (KRow 5).cells).length ≤ 1000000 := by rw [List.length_map, HM.out.len, List.length_map, HML.out.1]; omega
            clear h0 hS5 hrow5 hle
            go_wp2_with (at_builtin; refine wpList_append_box wr rfl (.tmp 55) (.tmp 57) 25 rfl (w.heap.size + 1) 29 _ 1 24 Tryz.underlying25 infoVs rfl (by decide) y (G.map (KRow 5).cells) (by rfl) (by exact hown1) #[.slice (some ⟨g5, off5, none⟩) (1 + C0) c5] rfl 1 _ (by rfl) (by simp) (by exact one_slice _ _ _) hlk2 (by decide) (by omega) ?_; intro v' w2 hown2 hg2 hat2 hbe2)
            have hpush := HM.out.push (K := KRow 5) (g := .slice (some ⟨g5, off5, none⟩) (1 + C0) c5) (m := fvs r) (by omega) hbq HR5.out hown2 hg2 (hat2.elim .inl fun h => .inr ⟨_, h, by simp⟩)
            have HPU := Lib.hid hpush
            clear hpush
            go_roundw
            case rel => first | exact ⟨k + 1, _, by omega, by go_num, rfl, G ++ [.slice (some ⟨g5, off5, none⟩) (1 + C0) c5], M ++ [r], HA.out.step HPU.out.2, by rw [List.length_append, HML.out.1]; rfl, rows_snoc HML.out.2 HRL.out.1 HRL.out.2, by rw [List.map_append]; exact HPU.out.1⟩ | exact ⟨k + 1, by omega, by go_num, G ++ [.slice (some ⟨g5, off5, none⟩) (1 + C0) c5], M ++ [r], HA.out.step HPU.out.2, by rw [List.length_append, HML.out.1]; rfl, rows_snoc HML.out.2 HRL.out.1 HRL.out.2, by rw [List.map_append]; exact HPU.out.1⟩
            case measure => simp [intOf]; omega
      · have hkn : k = R := by omega
        subst hkn
        obtain ⟨g, cap, rfl, hg, hrs⟩ := rows_out HM.out (by intro h; have := HML.out.1; rw [show M = [] by simpa using h] at this; simp at this <;> omega)
        have HS := Lib.hid hrs
        have HK := Lib.hid hg
        clear hrs hg
        go_wp2_with fail
        refine (table_any _ _ _ _).mono ?_
        rintro e w1 ⟨rfl, hb1⟩
        have z0 := (tab_zero HA.out).below hb1
        obtain ⟨z, q0, q1, q2, q3, q4, qf⟩ := z0
        have HBW := Lib.hid (HA.out.2.trans (hb1.mono HA.out.2.size))
        have HRS : Hid (RowsIs 5 w1 (New (w.heap.size + 1) w1) (some ⟨g, 0, none⟩) (M.map fvs).length (M.map fvs)) := Lib.hid ((HS.out.keep (Keep.below hb1 fun _ hq => hq.2)).more fun q hq => ⟨hq.1, Nat.lt_of_lt_of_le hq.2 hb1.size⟩)
        clear hb1
        go_wp2
        exact bodyPost_ret (v := (.agg #[.int .i64 5, .int .i64 0, .int .i64 0, .string ⟨#[]⟩, .slice (some ⟨g, 0, none⟩) (M.map fvs).length cap])) (by simp [results, Tryz.results9, go_sem, z, q0, q1, q2, q3, q4, qf]) rfl ⟨_, _, cap, M, rfl, (HRS.out.keep (by repeat' (first | with_reducible exact Keep.refl _ _ | with_reducible refine Keep.set ?_ (ne_new1 _ _) _))).more (fun q hq => ⟨by have := hq.1; omega, by simp only [size_setCell]; exact hq.2⟩), ⟨by intro h; have := HML.out.1; rw [h] at this; simp at this <;> omega, by rw [HML.out.1]; omega, 1 + C0, by omega, by omega, HML.out.2⟩, below5 HBW.out (Nat.le_refl _)⟩

set_option maxHeartbeats 4000000 in
theorem tableOf_many (A : Option Addr) (c : Nat) (X : List It) (cols : Int) (w : World) (hsrc : Src w w.heap.size A 3 (X.map It.cells)) (hlen : X.length ≤ 9223372036854775807) (hlc : X.length ≤ c) (hc : c ≤ 9223372036854775807)
    (hok : ∀ x ∈ X, x.Ok ∧ x.s.size ≤ 2147483647) (h1 : -9223372036854775808 ≤ cols) (h2 : cols ≤ 9223372036854775807) (hbig : 120 < X.length) :
    Calls Tryz.prog 9 #[.slice A X.length c, .int .i64 cols] w (TablePost w) := by
  obtain ⟨n, hn⟩ : ∃ n, n = X.length := ⟨_, rfl⟩
  rw [← hn] at hbig
  rw [← hn]
  rw [← hn] at hlen hlc
  have HN := Lib.hid hn
  have HO := Lib.hid hok
  have HSRC := Lib.hid hsrc
  have HC := Lib.hid (And.intro h1 h2)
  clear hn hok hsrc h1 h2
  obtain ⟨C0, hC0⟩ : ∃ C0 : Nat, cols % 6 = (C0 : Int) := ⟨(cols % 6).toNat, by omega⟩
  have hC5 : C0 ≤ 5 := by omega
  have HC0 := Lib.hid hC0
  clear hC0
  obtain ⟨R, hR⟩ : ∃ R : Nat, R = 120 / (1 + C0) := ⟨_, rfl⟩
  have hRl : R ≤ 120 := by rw [hR]; exact Nat.le_trans (Nat.div_le_self _ _) (by omega)
  have hRq : (120 : Int) / (1 + (C0 : Int)) = (R : Int) := by rw [hR]; simp
  clear hR
  go_enter Tryz.func9, Tryz.ntmps9
  go_wp2_with fail
  refine (part_any cols 6 _ (.inl rfl) HC.out.1 HC.out.2).mono ?_
  rw [HC0.out]
  rintro e w0 ⟨rfl, rfl⟩
  by_cases hR0 : R = 0
  · subst hR0
    go_wp2_with fail
    go_loopw [6, 7] (fun v i wr => ∃ (k : Nat) (y : Value), k ≤ 1 ∧ i = .int .i64 k ∧ y = v ∧ TabRel C0 w wr k y) (fun _ i _ => 1 - (intOf i).toNat)
    case atStart => exact ⟨0, _, Nat.zero_le _, rfl, rfl, [], [], ⟨Blk.new w _ _, (Below.refl _ _).alloc (Nat.le_refl _) _⟩, rfl, by simp, Kind.Many.nil _ _ _ _⟩
    case round =>
      obtain ⟨k, y, hk, rfl, rfl, G, M, hat, hML, hMok, hmany⟩ := hrel
      have HA := Lib.hid hat
      have HM := Lib.hid hmany
      have HML := Lib.hid (And.intro hML hMok)
      clear hat hmany hML hMok
      have hwb : w.heap.size < wr.heap.size := HA.out.1.lt
      by_cases hlt : k < 1
      · obtain ⟨P, hP⟩ : ∃ P : Nat, P = k * (1 + C0) := ⟨_, rfl⟩
        have hPl : P ≤ 120 * 6 := by rw [hP]; exact Nat.mul_le_mul (by omega) (by omega)
        have hPe : (k : Int) * (1 + (C0 : Int)) = (P : Int) := by rw [hP]; simp
        clear hP
        go_wp2_with fail
        obtain ⟨wo, rfl⟩ : ∃ wo : World, wo = wr := ⟨_, rfl⟩
        go_loopw [8, 9] (fun v i wq => ∃ (q : Nat) (z : Value), q ≤ 1 + C0 ∧ i = .int .i64 q ∧ z = v ∧ RowAt wo wq q z) (fun _ i _ => 1 + C0 - (intOf i).toNat)
        case atStart => exact ⟨0, _, Nat.zero_le _, rfl, rfl, [], Below.refl _ _, rfl, by simp, Owns.nil_ _ _ _ _⟩
        case round =>
          obtain ⟨q, zz, hq, rfl, rfl, r, hbq, hrl, hrok, hownq⟩ := hrel
          have HOQ := Lib.hid hownq
          have HRL := Lib.hid (And.intro hrl hrok)
          have hszq := hbq.size
          have hlk : (fvs r).length ≤ 1000000 := by unfold fvs; rw [List.length_map]; omega
          clear hownq hrl hrok
          by_cases hqc : q < 1 + C0
          · by_cases hin : P + q < 120
            · obtain ⟨x, hx⟩ : ∃ x, X[P + q]? = some x := ⟨_, List.getElem?_eq_getElem (by rw [← HN.out]; omega)⟩
              rcases HSRC.out with hnil | ⟨b, off, rfl, hb, hrow⟩
              · exfalso
                have : X = [] := by simpa using hnil
                subst this
                simp at hx
              have hbw : Below w.heap.size w wr := HA.out.2.trans (hbq.mono HA.out.2.size)
              have hR := (hrow.below hbw hb) (P + q) x.cells (by simp [hx])
              have c0 : wr.cell? ⟨b, off + (P + q) * 3, none⟩ = some (.int .i64 x.k) := hR.2 0 _ rfl
              have c1 : wr.cell? ⟨b, off + (P + q) * 3 + 1, none⟩ = some (.int .i64 x.n) := hR.2 1 _ rfl
              have c2 : wr.cell? ⟨b, off + (P + q) * 3 + 2, none⟩ = some (.string x.s) := hR.2 2 _ rfl
              have HXO := Lib.hid (HO.out x (List.mem_of_getElem? hx))
              have hbr : b < wr.heap.size := Nat.lt_of_lt_of_le hb hbw.size
              have z0 := Zero5.new wr
              have Z0 := Lib.hid z0
              clear hx hR hrow hbw z0
              go_wp2_with fail
              refine (val_any _ _ _ _ HXO.out.1.1.1 HXO.out.1.1.2 HXO.out.1.2.1 HXO.out.1.2.2).mono ?_
              rintro e w1 ⟨v, hv, rfl, hb1⟩
              have HV := Lib.hid (hv.cell HXO.out.2)
              obtain ⟨z, q0, q1, q2, q3, q4, qf⟩ := Z0.out.below hb1
              have hz1 := hb1.size
              simp only [World.size_alloc] at hz1
              have hbq1 : Below wo.heap.size wo w1 := (hbq.alloc hszq _).trans (hb1.mono (by simp; omega))
              have hown1 : Owns w1 wo.heap.size 27 5 zz (fvs r) := (HOQ.out.below ((Below.refl _ _).alloc (Nat.le_refl _) _)).below hb1
              have hnz : zz.ownBlock = none ∨ zz.ownBlock ≠ some wr.heap.size := HOQ.out.other (Nat.le_refl _)
              clear hv c0 c1 c2 hb1
              go_wp2_with (at_builtin; refine wpList_append_box _ rfl (.tmp 51) (.tmp 53) 29 rfl wo.heap.size 27 _ 5 64 Tryz.underlying29 infoV rfl (by decide) _ (fvs r) (by rfl) (by exact hown1.put5 hnz) #[.int .i64 v.k, .int .i64 v.n, .int .i64 v.d, .string v.s, .slice none 0 0] rfl 1 _ (by rfl) (by simp [size_setCell]) (by exact v.one) hlk (by decide) (by simp only [size_setCell]; omega) ?_; intro v' w2 hown2 hg2 hat2 hbe2)
              have hbf := (below5 hbq1 (B := wr.heap.size) hszq).trans hbe2
              have HBF := Lib.hid hbf
              clear hbf
              go_roundw
              case rel => first | exact ⟨q + 1, _, by omega, by go_num, rfl, r ++ [v], HBF.out, by rw [List.length_append, HRL.out.1]; rfl, cell_snoc HRL.out.2 HV.out, by unfold fvs at hown2 ⊢; rw [List.map_append]; exact hown2⟩ | exact ⟨q + 1, by omega, by go_num, r ++ [v], HBF.out, by rw [List.length_append, HRL.out.1]; rfl, cell_snoc HRL.out.2 HV.out, by unfold fvs at hown2 ⊢; rw [List.map_append]; exact hown2⟩
              case measure => simp [intOf]; omega
            · have hown1 : Owns (wr.alloc (.cells #[.int .i64 0, .int .i64 0, .int .i64 0, .string ⟨#[]⟩, .slice none 0 0] 27)) wo.heap.size 27 5 zz (fvs r) := HOQ.out.below ((Below.refl _ _).alloc (Nat.le_refl _) _)
              go_wp2_with (at_builtin; refine wpList_append_box _ rfl (.tmp 51) (.tmp 53) 29 rfl wo.heap.size 27 _ 5 64 Tryz.underlying29 infoV rfl (by decide) zz (fvs r) (by rfl) (by exact hown1) #[.int .i64 0, .int .i64 0, .int .i64 0, .string ⟨#[]⟩, .slice none 0 0] rfl 1 _ (by rfl) (by simp) (by exact Fv.one ⟨0, 0, 0, ⟨#[]⟩⟩) hlk (by decide) (by simp; omega) ?_; intro v' w2 hown2 hg2 hat2 hbe2)
              have HBF := Lib.hid ((hbq.alloc hszq _).trans hbe2)
              go_roundw
              case rel => first | exact ⟨q + 1, _, by omega, by go_num, rfl, r ++ [⟨0, 0, 0, ⟨#[]⟩⟩], HBF.out, by rw [List.length_append, HRL.out.1]; rfl, cell_snoc HRL.out.2 cell_zero, by unfold fvs at hown2 ⊢; rw [List.map_append]; exact hown2⟩ | exact ⟨q + 1, by omega, by go_num, r ++ [⟨0, 0, 0, ⟨#[]⟩⟩], HBF.out, by rw [List.length_append, HRL.out.1]; rfl, cell_snoc HRL.out.2 cell_zero, by unfold fvs at hown2 ⊢; rw [List.map_append]; exact hown2⟩
              case measure => simp [intOf]; omega
          · have hqe : q = 1 + C0 := by omega
            subst hqe
            have hrow1 : RowIs 5 wr (New wo.heap.size wr) zz (fvs r) := HOQ.out.rowIs (by intro h; have := HRL.out.1; rw [show r = [] by simpa [fvs] using h] at this; simp at this <;> omega)
            obtain ⟨h0, g5, off5, c5, rfl, hS5, hrow5⟩ := hrow1
            have hle : (fvs r).length = 1 + C0 := by rw [fvs, List.length_map]; exact HRL.out.1
            rw [hle]
            have HR5 : Hid (RowIs 5 wr (New wo.heap.size wr) (.slice (some ⟨g5, off5, none⟩) (1 + C0) c5) (fvs r)) := Lib.hid ⟨h0, g5, off5, c5, by rw [hle], hS5, hrow5⟩
            have hown1 : Owns wr (w.heap.size + 1) 29 1 y (G.map (KRow 5).cells) := (HM.out.below hbq).1
            have hlk2 : (G.map (KRow 5).cells).length ≤ 1000000 := by rw [List.length_map, HM.out.len, List.length_map, HML.out.1]; omega
            clear h0 hS5 hrow5 hle
            go_wp2_with (at_builtin; refine wpList_append_box wr rfl (.tmp 55) (.tmp 57) 25 rfl (w.heap.size + 1) 29 _ 1 24 Tryz.underlying25 infoVs rfl (by decide) y (G.map (KRow 5).cells) (by rfl) (by exact hown1) #[.slice (some ⟨g5, off5, none⟩) (1 + C0) c5] rfl 1 _ (by rfl) (by simp) (by exact one_slice _ _ _) hlk2 (by decide) (by omega) ?_; intro v' w2 hown2 hg2 hat2 hbe2)
            have hpush := HM.out.push (K := KRow 5) (g := .slice (some ⟨g5, off5, none⟩) (1 + C0) c5) (m := fvs r) (by omega) hbq HR5.out hown2 hg2 (hat2.elim .inl fun h => .inr ⟨_, h, by simp⟩)
            have HPU := Lib.hid hpush
            clear hpush
            go_roundw
            case rel => first | exact ⟨k + 1, _, by omega, by go_num, rfl, G ++ [.slice (some ⟨g5, off5, none⟩) (1 + C0) c5], M ++ [r], HA.out.step HPU.out.2, by rw [List.length_append, HML.out.1]; rfl, rows_snoc HML.out.2 HRL.out.1 HRL.out.2, by rw [List.map_append]; exact HPU.out.1⟩ | exact ⟨k + 1, by omega, by go_num, G ++ [.slice (some ⟨g5, off5, none⟩) (1 + C0) c5], M ++ [r], HA.out.step HPU.out.2, by rw [List.length_append, HML.out.1]; rfl, rows_snoc HML.out.2 HRL.out.1 HRL.out.2, by rw [List.map_append]; exact HPU.out.1⟩
            case measure => simp [intOf]; omega
      · obtain rfl : k = 1 := by omega
        obtain ⟨g, cap, rfl, hg, hrs⟩ := rows_out HM.out (by intro h; have := HML.out.1; rw [show M = [] by simpa using h] at this; simp at this <;> omega)
        have HS := Lib.hid hrs
        have HK := Lib.hid hg
        clear hrs hg
        go_wp2_with fail
        refine (table_any _ _ _ _).mono ?_
        rintro e w1 ⟨rfl, hb1⟩
        have z0 := (tab_zero HA.out).below hb1
        obtain ⟨z, q0, q1, q2, q3, q4, qf⟩ := z0
        have HBW := Lib.hid (HA.out.2.trans (hb1.mono HA.out.2.size))
        have HRS : Hid (RowsIs 5 w1 (New (w.heap.size + 1) w1) (some ⟨g, 0, none⟩) (M.map fvs).length (M.map fvs)) := Lib.hid ((HS.out.keep (Keep.below hb1 fun _ hq => hq.2)).more fun q hq => ⟨hq.1, Nat.lt_of_lt_of_le hq.2 hb1.size⟩)
        clear hb1
        go_wp2
        exact bodyPost_ret (v := (.agg #[.int .i64 5, .int .i64 0, .int .i64 0, .string ⟨#[]⟩, .slice (some ⟨g, 0, none⟩) (M.map fvs).length cap])) (by simp [results, Tryz.results9, go_sem, z, q0, q1, q2, q3, q4, qf]) rfl ⟨_, _, cap, M, rfl, (HRS.out.keep (by repeat' (first | with_reducible exact Keep.refl _ _ | with_reducible refine Keep.set ?_ (ne_new1 _ _) _))).more (fun q hq => ⟨by have := hq.1; omega, by simp only [size_setCell]; exact hq.2⟩), ⟨by intro h; have := HML.out.1; rw [h] at this; simp at this <;> omega, by rw [HML.out.1]; omega, 1 + C0, by omega, by omega, HML.out.2⟩, below5 HBW.out (Nat.le_refl _)⟩
  · have hR0' : ((R : Int) == 0) = false := by simpa using hR0
    go_wp2_with fail
    go_loopw [6, 7] (fun v i wr => ∃ (k : Nat) (y : Value), k ≤ R ∧ i = .int .i64 k ∧ y = v ∧ TabRel C0 w wr k y) (fun _ i _ => R - (intOf i).toNat)
    case atStart => exact ⟨0, _, Nat.zero_le _, rfl, rfl, [], [], ⟨Blk.new w _ _, (Below.refl _ _).alloc (Nat.le_refl _) _⟩, rfl, by simp, Kind.Many.nil _ _ _ _⟩
    case round =>
      obtain ⟨k, y, hk, rfl, rfl, G, M, hat, hML, hMok, hmany⟩ := hrel
      have HA := Lib.hid hat
      have HM := Lib.hid hmany
      have HML := Lib.hid (And.intro hML hMok)
      clear hat hmany hML hMok
      have hwb : w.heap.size < wr.heap.size := HA.out.1.lt
      by_cases hlt : k < R
      · obtain ⟨P, hP⟩ : ∃ P : Nat, P = k * (1 + C0) := ⟨_, rfl⟩
        have hPl : P ≤ 120 * 6 := by rw [hP]; exact Nat.mul_le_mul (by omega) (by omega)
        have hPe : (k : Int) * (1 + (C0 : Int)) = (P : Int) := by rw [hP]; simp
        clear hP
        go_wp2_with fail
        obtain ⟨wo, rfl⟩ : ∃ wo : World, wo = wr := ⟨_, rfl⟩
        go_loopw [8, 9] (fun v i wq => ∃ (q : Nat) (z : Value), q ≤ 1 + C0 ∧ i = .int .i64 q ∧ z = v ∧ RowAt wo wq q z) (fun _ i _ => 1 + C0 - (intOf i).toNat)
        case atStart => exact ⟨0, _, Nat.zero_le _, rfl, rfl, [], Below.refl _ _, rfl, by simp, Owns.nil_ _ _ _ _⟩
        case round =>
          obtain ⟨q, zz, hq, rfl, rfl, r, hbq, hrl, hrok, hownq⟩ := hrel
          have HOQ := Lib.hid hownq
          have HRL := Lib.hid (And.intro hrl hrok)
          have hszq := hbq.size
          have hlk : (fvs r).length ≤ 1000000 := by unfold fvs; rw [List.length_map]; omega
          clear hownq hrl hrok
          by_cases hqc : q < 1 + C0
          · by_cases hin : P + q < 120
            · obtain ⟨x, hx⟩ : ∃ x, X[P + q]? = some x := ⟨_, List.getElem?_eq_getElem (by rw [← HN.out]; omega)⟩
              rcases HSRC.out with hnil | ⟨b, off, rfl, hb, hrow⟩
              · exfalso
                have : X = [] := by simpa using hnil
                subst this
                simp at hx
              have hbw : Below w.heap.size w wr := HA.out.2.trans (hbq.mono HA.out.2.size)
              have hR := (hrow.below hbw hb) (P + q) x.cells (by simp [hx])
              have c0 : wr.cell? ⟨b, off + (P + q) * 3, none⟩ = some (.int .i64 x.k) := hR.2 0 _ rfl
              have c1 : wr.cell? ⟨b, off + (P + q) * 3 + 1, none⟩ = some (.int .i64 x.n) := hR.2 1 _ rfl
              have c2 : wr.cell? ⟨b, off + (P + q) * 3 + 2, none⟩ = some (.string x.s) := hR.2 2 _ rfl
              have HXO := Lib.hid (HO.out x (List.mem_of_getElem? hx))
              have hbr : b < wr.heap.size := Nat.lt_of_lt_of_le hb hbw.size
              have z0 := Zero5.new wr
              have Z0 := Lib.hid z0
              clear hx hR hrow hbw z0
              go_wp2_with fail
              refine (val_any _ _ _ _ HXO.out.1.1.1 HXO.out.1.1.2 HXO.out.1.2.1 HXO.out.1.2.2).mono ?_
              rintro e w1 ⟨v, hv, rfl, hb1⟩
              have HV := Lib.hid (hv.cell HXO.out.2)
              obtain ⟨z, q0, q1, q2, q3, q4, qf⟩ := Z0.out.below hb1
              have hz1 := hb1.size
              simp only [World.size_alloc] at hz1
              have hbq1 : Below wo.heap.size wo w1 := (hbq.alloc hszq _).trans (hb1.mono (by simp; omega))
              have hown1 : Owns w1 wo.heap.size 27 5 zz (fvs r) := (HOQ.out.below ((Below.refl _ _).alloc (Nat.le_refl _) _)).below hb1
              have hnz : zz.ownBlock = none ∨ zz.ownBlock ≠ some wr.heap.size := HOQ.out.other (Nat.le_refl _)
              clear hv c0 c1 c2 hb1
              go_wp2_with (at_builtin; refine wpList_append_box _ rfl (.tmp 51) (.tmp 53) 29 rfl wo.heap.size 27 _ 5 64 Tryz.underlying29 infoV rfl (by decide) _ (fvs r) (by rfl) (by exact hown1.put5 hnz) #[.int .i64 v.k, .int .i64 v.n, .int .i64 v.d, .string v.s, .slice none 0 0] rfl 1 _ (by rfl) (by simp [size_setCell]) (by exact v.one) hlk (by decide) (by simp only [size_setCell]; omega) ?_; intro v' w2 hown2 hg2 hat2 hbe2)
              have hbf := (below5 hbq1 (B := wr.heap.size) hszq).trans hbe2
              have HBF := Lib.hid hbf
              clear hbf
              go_roundw
              case rel => first | exact ⟨q + 1, _, by omega, by go_num, rfl, r ++ [v], HBF.out, by rw [List.length_append, HRL.out.1]; rfl, cell_snoc HRL.out.2 HV.out, by unfold fvs at hown2 ⊢; rw [List.map_append]; exact hown2⟩ | exact ⟨q + 1, by omega, by go_num, r ++ [v], HBF.out, by rw [List.length_append, HRL.out.1]; rfl, cell_snoc HRL.out.2 HV.out, by unfold fvs at hown2 ⊢; rw [List.map_append]; exact hown2⟩
              case measure => simp [intOf]; omega
            · have hown1 : Owns (wr.alloc (.cells #[.int .i64 0, .int .i64 0, .int .i64 0, .string ⟨#[]⟩, .slice none 0 0] 27)) wo.heap.size 27 5 zz (fvs r) := HOQ.out.below ((Below.refl _ _).alloc (Nat.le_refl _) _)
              go_wp2_with (at_builtin; refine wpList_append_box _ rfl (.tmp 51) (.tmp 53) 29 rfl wo.heap.size 27 _ 5 64 Tryz.underlying29 infoV rfl (by decide) zz (fvs r) (by rfl) (by exact hown1) #[.int .i64 0, .int .i64 0, .int .i64 0, .string ⟨#[]⟩, .slice none 0 0] rfl 1 _ (by rfl) (by simp) (by exact Fv.one ⟨0, 0, 0, ⟨#[]⟩⟩) hlk (by decide) (by simp; omega) ?_; intro v' w2 hown2 hg2 hat2 hbe2)
              have HBF := Lib.hid ((hbq.alloc hszq _).trans hbe2)
              go_roundw
              case rel => first | exact ⟨q + 1, _, by omega, by go_num, rfl, r ++ [⟨0, 0, 0, ⟨#[]⟩⟩], HBF.out, by rw [List.length_append, HRL.out.1]; rfl, cell_snoc HRL.out.2 cell_zero, by unfold fvs at hown2 ⊢; rw [List.map_append]; exact hown2⟩ | exact ⟨q + 1, by omega, by go_num, r ++ [⟨0, 0, 0, ⟨#[]⟩⟩], HBF.out, by rw [List.length_append, HRL.out.1]; rfl, cell_snoc HRL.out.2 cell_zero, by unfold fvs at hown2 ⊢; rw [List.map_append]; exact hown2⟩
              case measure => simp [intOf]; omega
          · have hqe : q = 1 + C0 := by omega
            subst hqe
            have hrow1 : RowIs 5 wr (New wo.heap.size wr) zz (fvs r) := HOQ.out.rowIs (by intro h; have := HRL.out.1; rw [show r = [] by simpa [fvs] using h] at this; simp at this <;> omega)
            obtain ⟨h0, g5, off5, c5, rfl, hS5, hrow5⟩ := hrow1
            have hle : (fvs r).length = 1 + C0 := by rw [fvs, List.length_map]; exact HRL.out.1
            rw [hle]
            have HR5 : Hid (RowIs 5 wr (New wo.heap.size wr) (.slice (some ⟨g5, off5, none⟩) (1 + C0) c5) (fvs r)) := Lib.hid ⟨h0, g5, off5, c5, by rw [hle], hS5, hrow5⟩
            have hown1 : Owns wr (w.heap.size + 1) 29 1 y (G.map (KRow 5).cells) := (HM.out.below hbq).1
            have hlk2 : (G.map (KRow 5).cells).length ≤ 1000000 := by rw [List.length_map, HM.out.len, List.length_map, HML.out.1]; omega
            clear h0 hS5 hrow5 hle
            go_wp2_with (at_builtin; refine wpList_append_box wr rfl (.tmp 55) (.tmp 57) 25 rfl (w.heap.size + 1) 29 _ 1 24 Tryz.underlying25 infoVs rfl (by decide) y (G.map (KRow 5).cells) (by rfl) (by exact hown1) #[.slice (some ⟨g5, off5, none⟩) (1 + C0) c5] rfl 1 _ (by rfl) (by simp) (by exact one_slice _ _ _) hlk2 (by decide) (by omega) ?_; intro v' w2 hown2 hg2 hat2 hbe2)
            have hpush := HM.out.push (K := KRow 5) (g := .slice (some ⟨g5, off5, none⟩) (1 + C0) c5) (m := fvs r) (by omega) hbq HR5.out hown2 hg2 (hat2.elim .inl fun h => .inr ⟨_, h, by simp⟩)
            have HPU := Lib.hid hpush
            clear hpush
            go_roundw
            case rel => first | exact ⟨k + 1, _, by omega, by go_num, rfl, G ++ [.slice (some ⟨g5, off5, none⟩) (1 + C0) c5], M ++ [r], HA.out.step HPU.out.2, by rw [List.length_append, HML.out.1]; rfl, rows_snoc HML.out.2 HRL.out.1 HRL.out.2, by rw [List.map_append]; exact HPU.out.1⟩ | exact ⟨k + 1, by omega, by go_num, G ++ [.slice (some ⟨g5, off5, none⟩) (1 + C0) c5], M ++ [r], HA.out.step HPU.out.2, by rw [List.length_append, HML.out.1]; rfl, rows_snoc HML.out.2 HRL.out.1 HRL.out.2, by rw [List.map_append]; exact HPU.out.1⟩
            case measure => simp [intOf]; omega
      · have hkn : k = R := by omega
        subst hkn
        obtain ⟨g, cap, rfl, hg, hrs⟩ := rows_out HM.out (by intro h; have := HML.out.1; rw [show M = [] by simpa using h] at this; simp at this <;> omega)
        have HS := Lib.hid hrs
        have HK := Lib.hid hg
        clear hrs hg
        go_wp2_with fail
        refine (table_any _ _ _ _).mono ?_
        rintro e w1 ⟨rfl, hb1⟩
        have z0 := (tab_zero HA.out).below hb1
        obtain ⟨z, q0, q1, q2, q3, q4, qf⟩ := z0
        have HBW := Lib.hid (HA.out.2.trans (hb1.mono HA.out.2.size))
        have HRS : Hid (RowsIs 5 w1 (New (w.heap.size + 1) w1) (some ⟨g, 0, none⟩) (M.map fvs).length (M.map fvs)) := Lib.hid ((HS.out.keep (Keep.below hb1 fun _ hq => hq.2)).more fun q hq => ⟨hq.1, Nat.lt_of_lt_of_le hq.2 hb1.size⟩)
        clear hb1
        go_wp2
        exact bodyPost_ret (v := (.agg #[.int .i64 5, .int .i64 0, .int .i64 0, .string ⟨#[]⟩, .slice (some ⟨g, 0, none⟩) (M.map fvs).length cap])) (by simp [results, Tryz.results9, go_sem, z, q0, q1, q2, q3, q4, qf]) rfl ⟨_, _, cap, M, rfl, (HRS.out.keep (by repeat' (first | with_reducible exact Keep.refl _ _ | with_reducible refine Keep.set ?_ (ne_new1 _ _) _))).more (fun q hq => ⟨by have := hq.1; omega, by simp only [size_setCell]; exact hq.2⟩), ⟨by intro h; have := HML.out.1; rw [h] at this; simp at this <;> omega, by rw [HML.out.1]; omega, 1 + C0, by omega, by omega, HML.out.2⟩, below5 HBW.out (Nat.le_refl _)⟩

theorem tableOf_any (A : Option Addr) (c : Nat) (X : List It) (cols : Int) (w : World) (hsrc : Src w w.heap.size A 3 (X.map It.cells)) (hlen : X.length ≤ 9223372036854775807) (hlc : X.length ≤ c) (hc : c ≤ 9223372036854775807)
    (hok : ∀ x ∈ X, x.Ok ∧ x.s.size ≤ 2147483647) (h1 : -9223372036854775808 ≤ cols) (h2 : cols ≤ 9223372036854775807) :
    Calls Tryz.prog 9 #[.slice A X.length c, .int .i64 cols] w (TablePost w) := by
  rcases Nat.lt_or_ge 120 X.length with h | h
  · exact tableOf_many A c X cols w hsrc hlen hlc hc hok h1 h2 h
  · exact tableOf_few A c X cols w hsrc hlen hlc hc hok h1 h2 h

end Go.Proofs.YtdpkjhohklfieaaGreat
