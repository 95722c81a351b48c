/- doorRows; doorArg of a matrix. -/
import Derived.Test.YtdpkjhohklfieaaGreatNm
import Derived.Test.YtdpkjhohklfieaaGreatLa
set_option linter.unusedSimpArgs false
set_option linter.unusedVariables false
namespace Go.Proofs.YtdpkjhohklfieaaGreat
open Go.RowKit
set_option maxRecDepth 100000
set_option maxHeartbeats 1000000

/-- What comes back to the door of a value of the package. -/
def Gl.dr (g : Gl) : Gl :=
  if g.k = 1 then ⟨1, Fl.clean g.x, ⟨#[]⟩⟩ else if g.k = 2 then ⟨2, 0, g.s⟩ else if g.k = 3 then ⟨3, g.x, ⟨#[]⟩⟩ else if g.k = 4 then ⟨4, 0, g.s⟩ else ⟨0, 0, ⟨#[]⟩⟩
theorem doorArg_gl (g : Gl) (w : World) : Calls Tryz.prog 27 #[g.inner] w fun e w' => e = .returned (.agg #[.int .i64 g.dr.k, .float .f64 g.dr.x, .string g.dr.s, .slice none 0 0]) ∧ Below w.heap.size w w' := by
  unfold Gl.inner Gl.dr
  split
  · exact doorArg_num _ w
  · split
    · exact doorArg_text _ w
    · split
      · exact doorArg_bool _ w
      · split
        · exact doorArg_err _ _ w
        · exact doorArg_empty w

def drs (r : List Gl) : List (List Value) := gls (r.map Gl.dr)
theorem drs_snoc (r : List Gl) (q : Nat) (g : Gl) (h : r[q]? = some g) : drs (r.take (q + 1)) = drs (r.take q) ++ [g.dr.cells] := by
  unfold drs gls
  rw [List.take_add_one, h]
  simp
def DrAt (w wr : World) (y : Value) (rows : List (List Gl)) (k : Nat) : Prop := ∃ H : List Value, Below w.heap.size w wr ∧ (KRow 4).Many wr w.heap.size 51 1 y H ((rows.take k).map drs)
def DrIn (wo wq : World) (z : Value) (r : List Gl) (q : Nat) : Prop := Below wo.heap.size wo wq ∧ Owns wq wo.heap.size 49 4 z (drs (r.take q))
theorem infoAs2 : ((Tryz.prog.info? 51)).map (fun i => (i.zero, i.size, i.bytes)) = some (some (.slice none 0 0), 1, 24) := by kernel_rfl

set_option maxHeartbeats 8000000 in
theorem doorRows_any (A : Option Addr) (n c : Nat) (rows : List (List Gl)) (w : World) (hr : RowsIs 10 w (· < w.heap.size) A n (rows.map inns)) (hn : n ≤ 1000) (hC : ∀ r ∈ rows, r.length ≤ 1000) :
    Calls Tryz.prog 46 #[.slice A n c] w fun e w' => ∃ g cap, e = .returned (.slice (some ⟨g, 0, none⟩) n cap) ∧ RowsIs 4 w' (New w.heap.size w') (some ⟨g, 0, none⟩) n (rows.map drs) ∧ Below w.heap.size w w' := by
  obtain ⟨hne, hm0, b, off, rfl, hb, hrow⟩ := hr
  have hm : n = rows.length := by rw [hm0]; exact List.length_map _
  have hne' : rows ≠ [] := by intro h; rw [h] at hne; exact hne rfl
  clear hm0 hne
  have HM := Lib.hid (And.intro hm (And.intro hC hne'))
  have HROW := Lib.hid hrow
  clear hm hrow hC hne'
  go_enter Tryz.func46, Tryz.ntmps46
  go_wp2_with fail
  go_loopw [3, 11] (fun v i wr => ∃ (k : Nat) (y : Value), k ≤ n ∧ i = .int .i64 k ∧ y = v ∧ DrAt w wr y rows k) (fun _ i _ => n - (intOf i).toNat)
  case atStart => exact ⟨0, _, Nat.zero_le _, rfl, rfl, [], Below.refl _ _, Kind.Many.nil _ _ _ _⟩
  case round =>
    obtain ⟨k, y, hk, rfl, rfl, H, hbe, hmany⟩ := hrel
    have HA := Lib.hid (And.intro hbe hmany)
    have hsz := hbe.size
    clear hbe hmany
    by_cases hlt : k < n
    · obtain ⟨r, hr⟩ : ∃ r, rows[k]? = some r := ⟨_, List.getElem?_eq_getElem (by rw [← HM.out.1]; exact hlt)⟩
      obtain ⟨hh, hc, hrn, b2, off2, c2, rfl, hb2, hrow2⟩ := HROW.out k (inns r) (by rw [List.getElem?_map, hr]; rfl)
      obtain ⟨u, hu⟩ : ∃ u, u = r.length := ⟨_, rfl⟩
      have hl : (inns r).length = u := by rw [hu]; exact List.length_map _
      rw [hl] at hc
      have hc1 : wr.cell? ⟨b, off + k, none⟩ = some (.slice (some ⟨b2, off2, none⟩) u c2) := (HA.out.1.cell (p := ⟨b, off + k, none⟩) hb).trans hc
      have hul : u ≤ 1000 := by rw [hu]; exact HM.out.2.1 r (List.mem_of_getElem? hr)
      have HR2 := Lib.hid (And.intro hr (And.intro hu (And.intro hrow2 hrn)))
      have hb2' : b2 < w.heap.size := hb2
      clear hr hc hl hrow2 hb2 hu hrn
      go_wp2_with fail
      clear hc1
      obtain ⟨wo, rfl⟩ : ∃ wo : World, wo = wr := ⟨_, rfl⟩
      go_loopw [6, 17] (fun v i wq => ∃ (q : Nat) (z : Value), q ≤ u ∧ i = .int .i64 q ∧ z = v ∧ DrIn wo wq z r q) (fun _ i _ => u - (intOf i).toNat)
      case atStart => exact ⟨0, _, Nat.zero_le _, rfl, rfl, Below.refl _ _, Owns.nil_ _ _ _ _⟩
      case round =>
        obtain ⟨q, z, hq, rfl, rfl, hbq, hown⟩ := hrel
        have HO := Lib.hid (And.intro hbq hown)
        have hszq := hbq.size
        clear hbq hown
        by_cases hqu : q < u
        · obtain ⟨g, hg⟩ : ∃ g, r[q]? = some g := ⟨_, List.getElem?_eq_getElem (by rw [← HR2.out.2.1]; exact hqu)⟩
          obtain ⟨x, s, bo, er, hin, hinn⟩ := g.form10t
          have hbw := HA.out.1.trans (HO.out.1.mono hsz)
          have hR := (HR2.out.2.2.1.below hbw hb2') q g.inn (by show (r.map Gl.inn)[q]? = _; rw [List.getElem?_map, hg]; rfl)
          rw [hinn] at hR
          have hlt2 : b2 < wr.heap.size := Nat.lt_of_lt_of_le hb2' hbw.size
          have c0 : wr.cell? ⟨b2, off2 + q * 10, none⟩ = some (.string ⟨#[]⟩) := hR.2 0 _ rfl
          have c1 : wr.cell? ⟨b2, off2 + q * 10 + 1, none⟩ = some (.float .f64 x) := hR.2 1 _ rfl
          have c2 : wr.cell? ⟨b2, off2 + q * 10 + 2, none⟩ = some (.string s) := hR.2 2 _ rfl
          have c3 : wr.cell? ⟨b2, off2 + q * 10 + 3, none⟩ = some (.slice none 0 0) := hR.2 3 _ rfl
          have c4 : wr.cell? ⟨b2, off2 + q * 10 + 4, none⟩ = some (.slice none 0 0) := hR.2 4 _ rfl
          have c5 : wr.cell? ⟨b2, off2 + q * 10 + 5, none⟩ = some (.bool bo) := hR.2 5 _ rfl
          have c6 : wr.cell? ⟨b2, off2 + q * 10 + 6, none⟩ = some (.string er) := hR.2 6 _ rfl
          have c7 : wr.cell? ⟨b2, off2 + q * 10 + 7, none⟩ = some (.int .u8 (tyOf g)) := hR.2 7 _ rfl
          have c8 : wr.cell? ⟨b2, off2 + q * 10 + 8, none⟩ = some (.pointer none) := hR.2 8 _ rfl
          have c9 : wr.cell? ⟨b2, off2 + q * 10 + 9, none⟩ = some (.pointer none) := hR.2 9 _ rfl
          have HDA : Hid (∀ W, Calls Tryz.prog 27 #[(.agg #[.string ⟨#[]⟩, .float .f64 x, .string s, .slice none 0 0, .slice none 0 0, .bool bo, .string er, .int .u8 (tyOf g), .pointer none, .pointer none])] W fun e w' => e = .returned (.agg #[.int .i64 g.dr.k, .float .f64 g.dr.x, .string g.dr.s, .slice none 0 0]) ∧ Below W.heap.size W w') := Lib.hid fun W => by have := doorArg_gl g W; rw [hin] at this; exact this
          have HG := Lib.hid hg
          clear hg hR hinn hin hbw
          go_wp2_with fail
          refine (HDA.out _).mono ?_
          rintro e w1 ⟨rfl, hb1⟩
          have hb01 : Below wr.heap.size wr w1 := ((Below.refl _ _).alloc (Nat.le_refl _) _).trans (hb1.mono (by simp))
          have hown1 : Owns w1 wo.heap.size 49 4 z (drs (r.take q)) := HO.out.2.below hb01
          have hz1 := hb01.size
          have hlk : (drs (r.take q)).length ≤ 1000000 := by unfold drs gls; rw [List.length_map, List.length_map, List.length_take]; omega
          clear hb1 c0 c1 c2 c3 c4 c5 c6 c7 c8 c9 HDA
          go_wp2_with (at_builtin; refine wpList_append_box w1 rfl (.tmp 21) (.tmp 24) 51 rfl wo.heap.size 49 _ 4 56 Tryz.underlying51 infoA rfl (by decide) z (drs (r.take q)) (by rfl) (by exact hown1) #[.int .i64 g.dr.k, .float .f64 g.dr.x, .string g.dr.s, .slice none 0 0] rfl 1 _ (by rfl) (by simp) (by exact Vg.one (⟨g.dr, none, 0, 0⟩ : Vg)) hlk (by decide) (by omega) ?_; intro v' w2 hown2 hg2 hat2 hbe2)
          have HB := Lib.hid (And.intro hown2 ((HO.out.1.trans (hb01.mono hszq)).trans hbe2))
          clear hown2 hg2 hat2 hbe2
          go_roundw
          case rel => exact ⟨q + 1, _, by omega, by go_num, rfl, HB.out.2, by rw [drs_snoc r q g HG.out]; exact HB.out.1⟩
          case measure => simp [intOf]; omega
        · obtain rfl : q = u := by omega
          have hrow1 : RowIs 4 wr (New wo.heap.size wr) z (drs r) := by
            have := HO.out.2
            rw [List.take_of_length_le (by rw [HR2.out.2.1]; exact Nat.le_refl _)] at this
            refine this.rowIs ?_
            intro h
            apply HR2.out.2.2.2
            have : r = [] := by simpa [drs, gls] using h
            rw [this]; rfl
          obtain ⟨h0, g5, off5, c5, rfl, hS5, hrow5⟩ := hrow1
          have hle : (drs r).length = q := by unfold drs gls; rw [List.length_map, List.length_map, ← HR2.out.2.1]
          rw [hle]
          have HR5 : Hid (RowIs 4 wr (New wo.heap.size wr) (.slice (some ⟨g5, off5, none⟩) q c5) (drs r)) := Lib.hid ⟨h0, g5, off5, c5, by rw [hle], hS5, hrow5⟩
          have hown1 : Owns wr w.heap.size 51 1 y (H.map (KRow 4).cells) := (HA.out.2.below HO.out.1).1
          have hlk2 : (H.map (KRow 4).cells).length ≤ 1000000 := by rw [List.length_map, HA.out.2.len, List.length_map, List.length_take]; omega
          clear h0 hS5 hrow5 hle
          go_wp2_with (at_builtin; refine wpList_append_box wr rfl (.tmp 27) (.tmp 29) 47 rfl w.heap.size 51 _ 1 24 Tryz.underlying47 infoAs2 rfl (by decide) y (H.map (KRow 4).cells) (by rfl) (by exact hown1) #[.slice (some ⟨g5, off5, none⟩) q c5] rfl 1 _ (by rfl) (by simp) (by exact one_slice _ _ _) hlk2 (by decide) (by omega) ?_; intro v' w2 hown2 hg2 hat2 hbe2)
          have hpush := HA.out.2.push (K := KRow 4) (g := .slice (some ⟨g5, off5, none⟩) q c5) (m := drs r) (by omega) HO.out.1 HR5.out hown2 hg2 (hat2.elim .inl fun h => .inr ⟨_, h, by simp⟩)
          have HPU := Lib.hid hpush
          clear hpush hown2 hg2 hat2 hbe2
          go_roundw
          case rel => exact ⟨k + 1, _, by omega, by go_num, rfl, H ++ [.slice (some ⟨g5, off5, none⟩) q c5], HA.out.1.trans HPU.out.2, by rw [List.take_add_one, HR2.out.1]; simp only [Option.toList, List.map_append, List.map_cons, List.map_nil]; exact HPU.out.1⟩
          case measure => simp [intOf]; omega
    · obtain rfl : k = n := by omega
      have hm := HA.out.2
      rw [List.take_of_length_le (by rw [HM.out.1]; exact Nat.le_refl _)] at hm
      obtain ⟨g, cap, rfl, hg, hrs⟩ := rows_out hm (by intro h; exact HM.out.2.2 (by simpa using h))
      have hle : (rows.map drs).length = k := by rw [List.length_map, HM.out.1]
      rw [hle] at hrs ⊢
      have HS := Lib.hid hrs
      clear hm hrs hle hg
      go_wp2
      go_ret
      exact ⟨g, cap, rfl, HS.out, HA.out.1⟩

theorem doorArg_mat (A : Option Addr) (n c P Q : Nat) (rows : List (List Gl)) (w : World) (hr : RowsIs 10 w (· < w.heap.size) A n (rows.map inns)) (hn : n ≤ 1000) (hC : ∀ r ∈ rows, r.length ≤ 1000) (v8 v9 : Value) :
    Calls Tryz.prog 27 #[.agg #[.string ⟨#[]⟩, .float .f64 0, .string ⟨#[]⟩, .slice none 0 0, .slice A n c, .bool false, .string ⟨#[]⟩, .int .u8 4, v8, v9]] w fun e w' => ∃ g cap, e = .returned (.agg #[.int .i64 5, .float .f64 0, .string ⟨#[]⟩, .slice (some ⟨g, 0, none⟩) n cap]) ∧ RowsIs 4 w' (New w.heap.size w') (some ⟨g, 0, none⟩) n (rows.map drs) ∧ Below w.heap.size w w' := by
  have hbB : Below w.heap.size w ((w.alloc (.cells #[.string ⟨#[]⟩, .float .f64 0, .string ⟨#[]⟩, .slice none 0 0, .slice A n c, .bool false, .string ⟨#[]⟩, .int .u8 4, v8, v9] 67)).alloc (.cells #[.int .i64 0, .float .f64 0, .string ⟨#[]⟩, .slice none 0 0] 49)) := ((Below.refl _ _).alloc (Nat.le_refl _) _).alloc (by simp) _
  have hr2 := (hr.keep (Keep.below hbB fun _ hq => hq)).more fun q hq => Nat.lt_of_lt_of_le hq hbB.size
  have HD := Lib.hid (doorRows_any A n c rows _ hr2 hn hC)
  have z0 : Zero4 ((w.alloc (.cells #[.string ⟨#[]⟩, .float .f64 0, .string ⟨#[]⟩, .slice none 0 0, .slice A n c, .bool false, .string ⟨#[]⟩, .int .u8 4, v8, v9] 67)).alloc (.cells #[.int .i64 0, .float .f64 0, .string ⟨#[]⟩, .slice none 0 0] 49)) (w.heap.size + 1) := by
    have := Zero4.new (w.alloc (.cells #[.string ⟨#[]⟩, .float .f64 0, .string ⟨#[]⟩, .slice none 0 0, .slice A n c, .bool false, .string ⟨#[]⟩, .int .u8 4, v8, v9] 67)) 49
    simpa using this
  have Z0 := Lib.hid (And.intro z0 hbB)
  clear hr hr2 z0 hbB
  go_enter Tryz.func27, Tryz.ntmps27
  go_wp2_with fail
  refine HD.out.mono ?_
  rintro e w1 ⟨g, cap, rfl, hrs, hb1⟩
  have hbw := Z0.out.2.trans (hb1.mono Z0.out.2.size)
  obtain ⟨q, q0, q1, q2, q3, qf⟩ := Z0.out.1.below hb1
  have HRS := Lib.hid (And.intro hrs Z0.out.2.size)
  clear hb1 hrs HD
  go_wp2
  exact bodyPost_ret (v := (.agg #[.int .i64 5, .float .f64 0, .string ⟨#[]⟩, .slice (some ⟨g, 0, none⟩) n cap])) (by simp [results, Tryz.results27, go_sem, q, q0, q1, q2, q3, qf]) rfl ⟨g, cap, rfl, (HRS.out.1.keep (((((Keep.refl _ _).set (by intro q hq; have h := hq.1; simp only [World.size_alloc] at h; show q ≠ w.heap.size + 1; omega) _).set (by intro q hq; have h := hq.1; simp only [World.size_alloc] at h; show q ≠ w.heap.size + 1; omega) _).set (by intro q hq; have h := hq.1; simp only [World.size_alloc] at h; show q ≠ w.heap.size + 1; omega) _).set (by intro q hq; have h := hq.1; simp only [World.size_alloc] at h; show q ≠ w.heap.size + 1; omega) _)).more (by intro q hq; have h := hq.1; simp only [World.size_alloc] at h; exact ⟨by omega, by simp only [size_setCell]; exact hq.2⟩), ((((hbw.setCell (by show w.heap.size ≤ w.heap.size + 1; omega) _).setCell (by show w.heap.size ≤ w.heap.size + 1; omega) _).setCell (by show w.heap.size ≤ w.heap.size + 1; omega) _).setCell (by show w.heap.size ≤ w.heap.size + 1; omega) _)⟩

end Go.Proofs.YtdpkjhohklfieaaGreat
