/- innerArg, innerList: values with rows as the package has them. -/
import Derived.Test.YtdpkjhohklfieaaGreatGi
set_option linter.unusedSimpArgs false
set_option linter.unusedVariables false
namespace Go.Proofs.YtdpkjhohklfieaaGreat
open Go.RowKit
set_option maxRecDepth 100000

theorem infoF : ((Tryz.prog.info? 67)).map (fun i => (i.zero, i.size, i.bytes)) = some (some (.agg #[.string ⟨#[]⟩, .float .f64 0, .string ⟨#[]⟩, .slice none 0 0, .slice none 0 0, .bool false, .string ⟨#[]⟩, .int .u8 0, .pointer none, .pointer none]), 10, 136) := by kernel_rfl
theorem infoFs : ((Tryz.prog.info? 62)).map (fun i => (i.zero, i.size, i.bytes)) = some (some (.slice none 0 0), 1, 24) := by kernel_rfl

def fcells (x : Nat) (s : ByteArray) (b : Bool) (e : ByteArray) (t : Int) : List Value := [.string ⟨#[]⟩, .float .f64 x, .string s, .slice none 0 0, .slice none 0 0, .bool b, .string e, .int .u8 t, .pointer none, .pointer none]
theorem fcells_one (x : Nat) (s : ByteArray) (b : Bool) (e : ByteArray) (t : Int) : ∀ u ∈ fcells x s b e t, u.oneCell' = true := by
  intro u hu
  simp [fcells] at hu
  rcases hu with rfl | rfl | rfl | rfl | rfl | rfl | rfl | rfl | rfl <;> rfl
theorem Gl.form10 (g : Gl) : ∃ (x : Nat) (s : ByteArray) (b : Bool) (e : ByteArray) (t : Int), g.inner = (.agg #[.string ⟨#[]⟩, .float .f64 x, .string s, .slice none 0 0, .slice none 0 0, .bool b, .string e, .int .u8 t, .pointer none, .pointer none]) ∧ g.inn = fcells x s b e t := by
  unfold Gl.inner Gl.inn fcells
  split
  · exact ⟨_, _, _, _, _, rfl, rfl⟩
  · split
    · exact ⟨_, _, _, _, _, rfl, rfl⟩
    · split
      · exact ⟨_, _, _, _, _, rfl, rfl⟩
      · split
        · exact ⟨_, _, _, _, _, rfl, rfl⟩
        · exact ⟨_, _, _, _, _, rfl, rfl⟩

theorem inns_take (r : List Gl) (k : Nat) (g : Gl) (h : r[k]? = some g) : inns (r.take (k + 1)) = inns (r.take k) ++ [g.inn] := by
  unfold inns; rw [List.take_add_one, h]; simp

theorem newMatrix_any (A : Option Addr) (n c : Nat) (w : World) :
    Calls Tryz.prog 53 #[.slice A n c] w fun e w' => e = .returned (.agg #[.string ⟨#[]⟩, .float .f64 0, .string ⟨#[]⟩, .slice none 0 0, .slice A n c, .bool false, .string ⟨#[]⟩, .int .u8 4, .pointer none, .pointer none]) ∧ Below w.heap.size w w' := by
  go_enter Tryz.func53, Tryz.ntmps53
  go_wp2
  exact bodyPost_ret (v := (.agg #[.string ⟨#[]⟩, .float .f64 0, .string ⟨#[]⟩, .slice none 0 0, .slice A n c, .bool false, .string ⟨#[]⟩, .int .u8 4, .pointer none, .pointer none])) (by simp [results, Tryz.results53, go_sem]) rfl ⟨rfl, (by (repeat' (first | with_reducible exact Below.refl _ _ | with_reducible refine Below.setCell ?_ ?_ _ | with_reducible refine Below.alloc ?_ ?_ _ | with_reducible refine Below.drew ?_ | with_reducible refine Below.trans ?_ (Below.mono (by assumption) ?_))); all_goals (first | omega | (simp [World.setCell]; done) | (simp [World.setCell]; omega)))⟩

def zero10 : Array Value := #[.string ⟨#[]⟩, .float .f64 0, .string ⟨#[]⟩, .slice none 0 0, .slice none 0 0, .bool false, .string ⟨#[]⟩, .int .u8 0, .pointer none, .pointer none]

/-- What lies around the loops of innerArg. -/
def InnAt (w wr : World) : Prop := Blk wr (w.heap.size + 1) 67 zero10 ∧ Below w.heap.size w wr
theorem InnAt.step {w wr w2 : World} (h : InnAt w wr) (hb : Below (w.heap.size + 1 + 1) wr w2) : InnAt w w2 := ⟨h.1.below hb (by omega), h.2.trans (hb.mono (by omega))⟩

theorem head_of {rows : List (List Gl)} {r0 : List Gl} (h : rows[0]? = some r0) : rows.headD [] = r0 := by
  cases rows with
  | nil => simp at h
  | cons x xs => simpa using h

theorem ne_of_new (w w4 : World) : ∀ k, New (w.heap.size + 1 + 1) w4 k → k ≠ w.heap.size + 1 := fun k hk => by have := hk.1; omega
theorem inner_post {w w4 W : World} {g k cap p q : Nat} {rows : List (List Gl)} {r0 : List Gl}
    (h : RowsIs 10 w4 (New (w.heap.size + 1 + 1) w4) (some ⟨g, 0, none⟩) k (rows.map inns) ∧ ListIs w4 (New (w.heap.size + 1 + 1) w4) p [] ∧ ListIs w4 (New (w.heap.size + 1 + 1) w4) q [cellsOf r0.length k] ∧ k = rows.length ∧ rows.headD [] = r0)
    (hk : Keep (New (w.heap.size + 1 + 1) w4) w4 W) (hz : w4.heap.size ≤ W.heap.size) :
    FIs W (New w.heap.size W) (.agg #[.string ⟨#[]⟩, .float .f64 0, .string ⟨#[]⟩, .slice none 0 0, .slice (some ⟨g, 0, none⟩) k cap, .bool false, .string ⟨#[]⟩, .int .u8 4, .pointer (some ⟨p, 0, none⟩), .pointer (some ⟨q, 0, none⟩)]) ⟨⟨5, 0, ⟨#[]⟩⟩, rows⟩ := by
  obtain ⟨h1, h2, h3, hkr, hh⟩ := h
  subst hkr hh
  have hS : ∀ k, New (w.heap.size + 1 + 1) w4 k → New w.heap.size W k := fun k hk => ⟨by have := hk.1; omega, Nat.lt_of_lt_of_le hk.2 hz⟩
  exact .inr ⟨rfl, _, cap, p, q, rfl, (h1.keep hk).more hS, (h2.keep hk).more hS, (h3.keep hk).more hS⟩

set_option maxHeartbeats 2000000 in
theorem innerArg_mat (A : Option Addr) (n c : Nat) (rows : List (List Gl)) (w : World) (hr : RowsIs 4 w (· < w.heap.size) A n (rows.map gls)) (hl : rows.length ≤ 1000) (hok : ∀ r ∈ rows, r.length ≤ 1000 ∧ ∀ x ∈ r, x.Ok) :
    Calls Tryz.prog 57 #[(.agg #[.int .i64 5, .float .f64 0, .string ⟨#[]⟩, .slice A n c])] w fun e w' => ∃ f, e = .returned f ∧ FIs w' (New w.heap.size w') f ⟨⟨5, 0, ⟨#[]⟩⟩, rows⟩ ∧ Below w.heap.size w w' := by
  obtain ⟨hne, hn, b, off, rfl, hb, hrow⟩ := hr
  rw [List.length_map] at hn
  have hnl : n ≤ 1000 := by omega
  have HN := Lib.hid hn
  have HR := Lib.hid hrow
  have HO := Lib.hid hok
  have HE := Lib.hid hne
  clear hn hrow hl hok hne
  go_enter Tryz.func57, Tryz.ntmps57
  go_wp2_with fail
  go_loopw [3, 40] (fun v i wr => ∃ (k : Nat) (y : Value) (G : List Value), k ≤ n ∧ i = .int .i64 k ∧ y = v ∧ InnAt w wr ∧ (KRow 10).Many wr (w.heap.size + 1 + 1) 62 1 y G ((rows.take k).map inns)) (fun _ i _ => n - (intOf i).toNat)
  case atStart =>
    refine ⟨0, _, [], Nat.zero_le _, rfl, rfl, ⟨?_, ?_⟩, Kind.Many.nil _ _ _ _⟩
    · have := Blk.new (w.alloc (.cells #[.int .i64 5, .float .f64 0, .string ⟨#[]⟩, .slice (some ⟨b, off, none⟩) n c] 49)) 67 zero10
      simpa [zero10] using this
    · exact ((Below.refl _ _).alloc (Nat.le_refl _) _).alloc (by simp) _
  case round =>
    obtain ⟨k, y, G, hk, rfl, rfl, hat, hmany⟩ := hrel
    have HA := Lib.hid hat
    have HM := Lib.hid hmany
    clear hat hmany
    by_cases hlt : k < n
    · obtain ⟨r, hr⟩ : ∃ r, rows[k]? = some r := ⟨_, List.getElem?_eq_getElem (by rw [← HN.out]; exact hlt)⟩
      obtain ⟨hd, hc, hrn, b', off', c', rfl, hb', hrow'⟩ := HR.out k (gls r) (by simp [hr])
      obtain ⟨p, hp⟩ : ∃ p, p = r.length := ⟨_, rfl⟩
      have d0 : wr.cell? ⟨b, off + k, none⟩ = some (.slice (some ⟨b', off', none⟩) p c') := by
        rw [hp, show r.length = (gls r).length by simp [gls]]
        exact (HA.out.2.cell (p := ⟨b, off + k, none⟩) hb).trans hc
      have hor := HO.out r (List.mem_of_getElem? hr)
      have hpl : p ≤ 1000 := by rw [hp]; exact hor.1
      have HP := Lib.hid hp
      have HOR := Lib.hid hor.2
      have HROW := Lib.hid hrow'
      have HRR := Lib.hid hr
      have HRN := Lib.hid hrn
      clear hr hc hrow' hrn hp hor
      go_wp2_with fail
      clear d0
      obtain ⟨wo, rfl⟩ : ∃ wo : World, wo = wr := ⟨_, rfl⟩
      have hwo : w.heap.size + 1 < wo.heap.size := HA.out.1.lt
      go_loopw [6, 46] (fun v i wq => ∃ (q : Nat) (z : Value), q ≤ p ∧ i = .int .i64 q ∧ z = v ∧ Below wo.heap.size wo wq ∧ Owns wq wo.heap.size 67 10 z (inns (r.take q))) (fun _ i _ => p - (intOf i).toNat)
      case atStart => exact ⟨0, _, Nat.zero_le _, rfl, rfl, Below.refl _ _, Owns.nil_ _ _ _ _⟩
      case round =>
        obtain ⟨q, z, hq, rfl, rfl, hbq, hownq⟩ := hrel
        have HOQ := Lib.hid hownq
        have hszq := hbq.size
        clear hownq
        by_cases hqp : q < p
        · obtain ⟨g, hg⟩ : ∃ g, r[q]? = some g := ⟨_, List.getElem?_eq_getElem (by rw [← HP.out]; exact hqp)⟩
          have hgok := HOR.out g (List.mem_of_getElem? hg)
          have hbw := HA.out.2.trans (hbq.mono HA.out.2.size)
          have hR := (HROW.out.below hbw hb') q g.cells (by simp [gls, hg])
          have c0 : wr.cell? ⟨b', off' + q * 4, none⟩ = some (.int .i64 g.k) := hR.2 0 _ rfl
          have c1 : wr.cell? ⟨b', off' + q * 4 + 1, none⟩ = some (.float .f64 g.x) := hR.2 1 _ rfl
          have c2 : wr.cell? ⟨b', off' + q * 4 + 2, none⟩ = some (.string g.s) := hR.2 2 _ rfl
          have c3 : wr.cell? ⟨b', off' + q * 4 + 3, none⟩ = some (.slice none 0 0) := hR.2 3 _ rfl
          have hfin := inns_take r q g hg
          have HF := Lib.hid hfin
          clear hg hbw hR hfin
          go_wp2_with fail
          refine (innerArg_flat g hgok _).mono ?_
          obtain ⟨x, s, bo, er, t, hin, hcs⟩ := g.form10
          rw [hin]
          rintro e w1 ⟨rfl, hb1⟩
          have HCS := Lib.hid hcs
          have hz1 := hb1.size
          simp only [World.size_alloc] at hz1
          have hbq1 : Below wo.heap.size wo w1 := (hbq.alloc hszq _).trans (hb1.mono (by simp; omega))
          have hown1 : Owns w1 wo.heap.size 67 10 z (inns (r.take q)) := (HOQ.out.below ((Below.refl _ _).alloc (Nat.le_refl _) _)).below hb1
          have hlk : (inns (r.take q)).length ≤ 1000000 := by unfold inns; simp; omega
          clear hin hcs hgok c0 c1 c2 c3
          go_wp2_with (at_builtin; refine wpList_append_box w1 rfl (.tmp 50) (.tmp 53) 62 rfl wo.heap.size 67 _ 10 136 Tryz.underlying62 infoF rfl (by decide) z (inns (r.take q)) (by rfl) (by exact hown1) #[.string ⟨#[]⟩, .float .f64 x, .string s, .slice none 0 0, .slice none 0 0, .bool bo, .string er, .int .u8 t, .pointer none, .pointer none] rfl 1 _ (by rfl) (by simp) (by exact fcells_one x s bo er t) hlk (by decide) (by omega) ?_; intro v' w2 hown2 hg2 hat2 hbe2)
          go_roundw
          case rel => exact ⟨q + 1, _, by omega, by go_num, rfl, hbq1.trans hbe2, by rw [HF.out, HCS.out]; exact hown2⟩
          case measure => simp [intOf]; omega
        · have hqe : q = p := by omega
          subst hqe
          have hrow1 : RowIs 10 wr (New wo.heap.size wr) z (inns r) := by
            have := HOQ.out
            rw [List.take_of_length_le (by rw [HP.out]; exact Nat.le_refl _)] at this
            exact this.rowIs (by intro h; exact HRN.out (by simpa [inns, gls] using h))
          obtain ⟨h0, g5, off5, c5, rfl, hS5, hrow5⟩ := hrow1
          have HR5 : Hid (RowIs 10 wr (New wo.heap.size wr) (.slice (some ⟨g5, off5, none⟩) q c5) (inns r)) := Lib.hid ⟨h0, g5, off5, c5, by rw [show (inns r).length = q by rw [HP.out]; simp [inns]], hS5, hrow5⟩
          rw [show (inns r).length = q by rw [HP.out]; simp [inns]]
          have hown1 : Owns wr (w.heap.size + 1 + 1) 62 1 y (G.map (KRow 10).cells) := (HM.out.below hbq).1
          have hlk : (G.map (KRow 10).cells).length ≤ 1000000 := by rw [List.length_map, HM.out.len]; simp; omega
          clear h0 hS5 hrow5
          go_wp2_with (at_builtin; refine wpList_append_box wr rfl (.tmp 56) (.tmp 58) 63 rfl (w.heap.size + 1 + 1) 62 _ 1 24 Tryz.underlying63 infoFs rfl (by decide) y (G.map (KRow 10).cells) (by rfl) (by exact hown1) #[.slice (some ⟨g5, off5, none⟩) q c5] rfl 1 _ (by rfl) (by simp) (by exact one_slice _ _ _) hlk (by decide) (by omega) ?_; intro v' w2 hown2 hg2 hat2 hbe2)
          have hpush := HM.out.push (K := KRow 10) (g := .slice (some ⟨g5, off5, none⟩) q c5) (m := inns r) (by omega) hbq HR5.out hown2 hg2 (hat2.elim .inl fun h => .inr ⟨_, h, by simp⟩)
          have HPU := Lib.hid hpush
          clear hpush
          go_roundw
          case rel => exact ⟨k + 1, _, G ++ [.slice (some ⟨g5, off5, none⟩) q c5], by omega, by go_num, rfl, HA.out.step HPU.out.2, by rw [List.take_add_one, HRR.out]; simp only [Option.toList, List.map_append, List.map_cons, List.map_nil]; exact HPU.out.1⟩
          case measure => simp [intOf]; omega
    · have hkn : k = n := by omega
      subst hkn
      have hm := HM.out
      rw [List.take_of_length_le (by rw [HN.out]; exact Nat.le_refl _)] at hm
      obtain ⟨g, cap, rfl, hg, hrs⟩ := rows_out hm (by intro h; exact HE.out (by simpa using h))
      have hle : (rows.map inns).length = k := by rw [List.length_map, HN.out]
      rw [hle] at hrs
      rw [hle]
      have HS := Lib.hid hrs
      have hk0 : 0 < k := by
        rcases Nat.eq_zero_or_pos k with h | h
        · exfalso; exact HE.out (by have : rows = [] := List.eq_nil_of_length_eq_zero (by rw [← HN.out]; exact h); simp [this])
        · exact h
      clear hm hrs hle HM
      go_wp2_with fail
      refine (newMatrix_any _ _ _ _).mono ?_
      rintro e w1 ⟨rfl, hb1⟩
      go_wp2_with (go_at_call 55; refine (new_any _).mono ?_; rintro e w2 ⟨rfl, rfl⟩)
      obtain ⟨W3, hW3⟩ : ∃ W : World, W = ((w1.alloc (.cells #[.string ⟨#[]⟩, .float .f64 0, .string ⟨#[]⟩, .slice none 0 0, .slice (some ⟨g, 0, none⟩) k cap, .bool false, .string ⟨#[]⟩, .int .u8 4, .pointer (some ⟨w1.heap.size + 1, 0, none⟩), .pointer (some ⟨w1.heap.size + 1 + 1, 0, none⟩)] 67)).alloc (.cells #[.pointer (some ⟨w1.heap.size + 1, 0, none⟩), .pointer (some ⟨w1.heap.size + 1, 0, none⟩), .pointer none, .nilIface, .int .i64 0] 115)).alloc (.cells #[.pointer (some ⟨w1.heap.size + 1 + 1, 0, none⟩), .pointer (some ⟨w1.heap.size + 1 + 1, 0, none⟩), .pointer none, .nilIface, .int .i64 0] 115) := ⟨_, rfl⟩
      rw [← hW3]
      have hb3 : Below w1.heap.size w1 W3 := by rw [hW3]; exact (((Below.refl _ _).alloc (Nat.le_refl _) _).alloc (by simp) _).alloc (by simp; omega) _
      have bo : Blk W3 w1.heap.size 67 #[.string ⟨#[]⟩, .float .f64 0, .string ⟨#[]⟩, .slice none 0 0, .slice (some ⟨g, 0, none⟩) k cap, .bool false, .string ⟨#[]⟩, .int .u8 4, .pointer (some ⟨w1.heap.size + 1, 0, none⟩), .pointer (some ⟨w1.heap.size + 1 + 1, 0, none⟩)] := by
        rw [hW3]; exact ((Blk.new w1 _ _).alloc _).alloc _
      have l1 : IsList W3 (w1.heap.size + 1) [] [] := by
        rw [hW3]
        have := (IsList.new (w1.alloc (.cells #[.string ⟨#[]⟩, .float .f64 0, .string ⟨#[]⟩, .slice none 0 0, .slice (some ⟨g, 0, none⟩) k cap, .bool false, .string ⟨#[]⟩, .int .u8 4, .pointer (some ⟨w1.heap.size + 1, 0, none⟩), .pointer (some ⟨w1.heap.size + 1 + 1, 0, none⟩)] 67)))
        simp only [World.size_alloc] at this
        exact this.below ((Below.refl _ _).alloc (Nat.le_refl _) _)
      have l2 : IsList W3 (w1.heap.size + 1 + 1) [] [] := by
        rw [hW3]
        have := (IsList.new ((w1.alloc (.cells #[.string ⟨#[]⟩, .float .f64 0, .string ⟨#[]⟩, .slice none 0 0, .slice (some ⟨g, 0, none⟩) k cap, .bool false, .string ⟨#[]⟩, .int .u8 4, .pointer (some ⟨w1.heap.size + 1, 0, none⟩), .pointer (some ⟨w1.heap.size + 1 + 1, 0, none⟩)] 67)).alloc (.cells #[.pointer (some ⟨w1.heap.size + 1, 0, none⟩), .pointer (some ⟨w1.heap.size + 1, 0, none⟩), .pointer none, .nilIface, .int .i64 0] 115)))
        simpa only [World.size_alloc] using this
      have hs3 : W3.heap.size = w1.heap.size + 1 + 1 + 1 := by rw [hW3]; simp
      clear hW3
      have hz1 := hb1.size
      have hwlt : w.heap.size + 1 < wr.heap.size := HA.out.1.lt
      have hb13 : Below wr.heap.size wr W3 := hb1.trans (hb3.mono hz1)
      have hrs3 := (HS.out.keep (Keep.below hb13 fun _ hq => hq.2)).more (S' := New w.heap.size W3) fun q hq => ⟨by have := hq.1; omega, Nat.lt_of_lt_of_le hq.2 hb13.size⟩
      have HRS3 := Lib.hid hrs3
      obtain ⟨hne3, hm3, g3, off3, hA3, hS3, hrow3⟩ := hrs3
      injection hA3 with hA3
      injection hA3 with hA3 hA3'
      subst hA3 hA3'
      obtain ⟨r0, hr0⟩ : ∃ r0, rows[0]? = some r0 := ⟨_, List.getElem?_eq_getElem (by rw [← HN.out]; exact hk0)⟩
      obtain ⟨hd0, hc0, hrn0, gb, goff, gc, rfl, _, _⟩ := hrow3 0 (inns r0) (by simp [hr0])
      have d0 : W3.cell? ⟨g, 0, none⟩ = some (.slice (some ⟨gb, goff, none⟩) r0.length gc) := by
        rw [show r0.length = (inns r0).length by simp [inns]]
        simpa using hc0
      have q9 : W3.cell? ⟨w1.heap.size, 9, none⟩ = some (.pointer (some ⟨w1.heap.size + 1 + 1, 0, none⟩)) := bo.cell 9
      have HL := Lib.hid (And.intro l1 l2)
      have HB := Lib.hid bo
      have HS3 := Lib.hid hs3
      have HR0 := Lib.hid hr0
      have HBW := Lib.hid (HA.out.2.trans (hb13.mono HA.out.2.size))
      have HBK := Lib.hid (HA.out.1.below hb13 (HA.out.1.lt))
      have hr0l : r0.length ≤ 1000 := (HO.out r0 (List.mem_of_getElem? hr0)).1
      clear hc0 hrow3 hm3 hne3 hS3 bo l1 l2 hs3 hr0
      go_region_with (go_at_call 56; refine (pushBack_any _ [] [] _ _ _ (by exact HL.out.2.below (Below.drew (Below.refl _ _))) (by simp)).mono ?_; rintro e w4 ⟨rfl, hl4, hb4⟩)
      all_goals
        have hb34 : Below (w1.heap.size + 1 + 1) W3 w4 := (Below.drew (Below.refl _ _)).trans (hb4 _ (Nat.le_refl _) (by simp))
        have bo := HB.out.below hb34 (by omega)
        have br := HBK.out.below hb34 (by omega)
        have hl1 : ListIs w4 (New (w.heap.size + 1 + 1) w4) (w1.heap.size + 1) [] := by
          have h1 := HL.out.1.root.below hb34 (by omega)
          exact ⟨⟨by omega, h1.lt⟩, [], ⟨rfl, h1, by intro i b v hi; simp at hi⟩, by simp⟩
        have hl2 : ListIs w4 (New (w.heap.size + 1 + 1) w4) (w1.heap.size + 1 + 1) [cellsOf r0.length k] := by
          refine ⟨⟨by omega, hl4.lt⟩, _, hl4, ?_⟩
          intro b hb
          have hbe : b = W3.drew.heap.size := by simpa using hb
          obtain ⟨q, hq⟩ := hl4.node 0 W3.drew.heap.size _ rfl rfl
          rw [hbe]
          refine ⟨?_, hq.lt⟩
          have := HS3.out
          show w.heap.size + 1 + 1 ≤ W3.heap.size
          omega
        have hrs4 := (HS.out.keep ((Keep.below hb13 fun _ hq => hq.2).trans (Keep.below hb34 fun q hq => by have := hq.2; omega))).more (S' := New (w.heap.size + 1 + 1) w4) fun q hq => ⟨hq.1, Nat.lt_of_lt_of_le hq.2 (Nat.le_trans hb13.size hb34.size)⟩
        have hkr := HN.out
        have hh0 : rows.headD [] = r0 := head_of HR0.out
        have HF := Lib.hid (And.intro hrs4 (And.intro hl1 (And.intro hl2 (And.intro hkr hh0))))
        have HBF := Lib.hid (HBW.out.trans (hb34.mono (by omega)))
        have o0 := bo.cell 0
        have o1 := bo.cell 1
        have o2 := bo.cell 2
        have o3 := bo.cell 3
        have o4 := bo.cell 4
        have o5 := bo.cell 5
        have o6 := bo.cell 6
        have o7 := bo.cell 7
        have o8 := bo.cell 8
        have o9 := bo.cell 9
        simp only [List.getElem?_toArray, List.getElem?_cons_zero, List.getElem?_cons_succ] at o0 o1 o2 o3 o4 o5 o6 o7 o8 o9
        have p0 : w4.cell? ⟨w.heap.size + 1, 0, none⟩ = some (.string ⟨#[]⟩) := br.cell 0
        have p1 : w4.cell? ⟨w.heap.size + 1, 1, none⟩ = some (.float .f64 0) := br.cell 1
        have p2 : w4.cell? ⟨w.heap.size + 1, 2, none⟩ = some (.string ⟨#[]⟩) := br.cell 2
        have p3 : w4.cell? ⟨w.heap.size + 1, 3, none⟩ = some (.slice none 0 0) := br.cell 3
        have p4 : w4.cell? ⟨w.heap.size + 1, 4, none⟩ = some (.slice none 0 0) := br.cell 4
        have p5 : w4.cell? ⟨w.heap.size + 1, 5, none⟩ = some (.bool false) := br.cell 5
        have p6 : w4.cell? ⟨w.heap.size + 1, 6, none⟩ = some (.string ⟨#[]⟩) := br.cell 6
        have p7 : w4.cell? ⟨w.heap.size + 1, 7, none⟩ = some (.int .u8 0) := br.cell 7
        have p8 : w4.cell? ⟨w.heap.size + 1, 8, none⟩ = some (.pointer none) := br.cell 8
        have p9 : w4.cell? ⟨w.heap.size + 1, 9, none⟩ = some (.pointer none) := br.cell 9
        have pf : ∀ o, w4.frozen? ⟨w.heap.size + 1, o, none⟩ = false := fun o => br.free o
        have hne1 : w.heap.size + 1 ≠ w1.heap.size := by omega
        have hne2 : w1.heap.size ≠ w.heap.size + 1 := by omega
        clear hrs4 hl1 hl2 hkr hh0 bo br hl4 hb4 hb34 q9 d0
        go_wp2
        exact bodyPost_ret (v := (.agg #[.string ⟨#[]⟩, .float .f64 0, .string ⟨#[]⟩, .slice none 0 0, .slice (some ⟨g, 0, none⟩) k cap, .bool false, .string ⟨#[]⟩, .int .u8 4, .pointer (some ⟨w1.heap.size + 1, 0, none⟩), .pointer (some ⟨w1.heap.size + 1 + 1, 0, none⟩)])) (by simp [results, Tryz.results57, go_sem, p0, p1, p2, p3, p4, p5, p6, p7, p8, p9, pf, o0, o1, o2, o3, o4, o5, o6, o7, o8, o9]) rfl ⟨_, rfl, inner_post HF.out (by repeat' (first | with_reducible exact Keep.refl _ _ | with_reducible refine Keep.set ?_ (ne_of_new _ _) _)) (by simp only [size_setCell]; exact Nat.le_refl _), (by repeat' (first | with_reducible exact HBF.out | with_reducible refine Below.setCell ?_ (Nat.le_succ _) _))⟩

end Go.Proofs.YtdpkjhohklfieaaGreat
