/- TRANSPOSE in the package. -/
import Derived.Test.YtdpkjhohklfieaaGreatTm
import Derived.RegionTactic
set_option linter.unusedSimpArgs false
set_option linter.unusedVariables false
namespace Go.Proofs.YtdpkjhohklfieaaGreat
open Go.RowKit
set_option maxRecDepth 100000
set_option maxHeartbeats 1000000

theorem back_any (LB E : Nat) (n : Int) (w : World) (h1 : w.cell? ⟨LB, 1, none⟩ = some (.pointer (some ⟨E, 0, none⟩))) (h4 : w.cell? ⟨LB, 4, none⟩ = some (.int .i64 n)) (hn : n ≠ 0) :
    Calls Tryz.prog 50 #[.pointer (some ⟨LB, 0, none⟩)] w fun e w' => e = .returned (.pointer (some ⟨E, 0, none⟩)) ∧ w = w' := by
  have hn' : (n == 0) = false := by simpa using hn
  go_enter Tryz.func50, Tryz.ntmps50
  go_wp2
  go_ret
  exact ⟨rfl, rfl⟩

theorem make_rows0 (W : World) : (Instr.makeSlice 63 (.int .i64 0) (.int .i64 0)).run Tryz.prog W = .ok (.slice (some ⟨W.heap.size, 0, none⟩) 0 0) (W.alloc (.cells #[] 62)) := by
  have h := make_rows 0 (by decide) W
  rw [show nilsA 0 = #[] by simp [nilsA, madeCells]] at h
  exact h

/-- The rows of the range, as pieces of the list of its cells. -/
def piece (ab C cap k : Nat) : Value := .slice (some ⟨ab, k * C * 10, none⟩) C (cap - k * C)
def pieces (ab C cap k : Nat) : List (List Value) := (List.range k).map fun i => [piece ab C cap i]
theorem pieces_snoc (ab C cap k : Nat) : pieces ab C cap (k + 1) = pieces ab C cap k ++ [[piece ab C cap k]] := by unfold pieces; rw [List.range_succ, List.map_append]; rfl
theorem pieces_len (ab C cap k : Nat) : (pieces ab C cap k).length = k := by unfold pieces; rw [List.length_map, List.length_range]
theorem pieces_get (ab C cap k i : Nat) (h : i < k) : (pieces ab C cap k)[i]? = some [piece ab C cap i] := by unfold pieces; rw [List.getElem?_map, List.getElem?_range h]; rfl
theorem flatten_get {α : Type} (rows : List (List α)) (C : Nat) (h : ∀ r ∈ rows, r.length = C) (k q : Nat) (r : List α) (x : α) (hr : rows[k]? = some r) (hx : r[q]? = some x) : rows.flatten[k * C + q]? = some x := by
  induction rows generalizing k with
  | nil => simp at hr
  | cons a tl ih =>
    have ha := h a (List.mem_cons_self ..)
    rw [List.flatten_cons]
    cases k with
    | zero =>
      simp at hr
      subst hr
      rw [Nat.zero_mul, Nat.zero_add, List.getElem?_append_left (List.getElem?_eq_some_iff.1 hx).1]
      exact hx
    | succ k =>
      rw [Nat.succ_mul, List.getElem?_append_right (by omega), show k * C + C + q - a.length = k * C + q by omega]
      exact ih (fun r hr => h r (List.mem_cons_of_mem _ hr)) k (by simpa using hr)
theorem flatten_length {α : Type} (rows : List (List α)) (C : Nat) (h : ∀ r ∈ rows, r.length = C) : rows.flatten.length = rows.length * C := by
  induction rows with
  | nil => simp
  | cons a tl ih =>
    rw [List.flatten_cons, List.length_append, ih (fun r hr => h r (List.mem_cons_of_mem _ hr)), h a (List.mem_cons_self ..), List.length_cons, Nat.succ_mul]; omega

def SrcAt (wA wr : World) (ab C cap k : Nat) (y : Value) : Prop := Below wA.heap.size wA wr ∧ Owns wr wA.heap.size 62 1 y (pieces ab C cap k)

set_option maxHeartbeats 16000000 in
theorem ff_TRANSPOSE (p : Addr) (LB E : Nat) (A : Option Addr) (n c P Q R C : Nat) (rows : List (List Gl)) (w : World) (h : List1 w LB E (.iface 67 (FMat A n c P Q))) (hr : RowsIs 10 w (· < w.heap.size) A n (rows.map inns))
    (hP : ListIs w (· < w.heap.size) P []) (hQ : ListIs w (· < w.heap.size) Q [cellsOf C R]) (hR : rows.length = R) (hR0 : 0 < R) (hR1 : R ≤ 1000) (hC0 : 0 < C) (hC1 : C ≤ 1000) (hC : ∀ r ∈ rows, r.length = C) (ht : R * C ≤ 100000) :
    Calls Tryz.prog 36 #[.pointer (some p), .pointer (some ⟨LB, 0, none⟩)] w (MatPost (trg rows C) w) := by
  obtain ⟨N, hN⟩ : ∃ N, N = R * C := ⟨_, rfl⟩
  have hfl : rows.flatten.length = N := by rw [hN, ← hR]; exact flatten_length rows C hC
  have hN0 : 0 < N := by rw [hN]; exact Nat.mul_pos hR0 hC0
  have hN1 : N ≤ 100000 := by omega
  have HNK := Lib.hid (show ∀ k, k < R → k * C + C ≤ N ∧ (k + 1) * C = k * C + C by
    intro k hk
    have h1 := Nat.mul_le_mul_right C (show k + 1 ≤ R from hk)
    rw [Nat.succ_mul] at h1
    rw [hN]; exact ⟨h1, Nat.succ_mul k C⟩)
  have Z0 := Lib.hid (Zero10.new w)
  have hbA : Below w.heap.size w (w.alloc (.cells #[.string ⟨#[]⟩, .float .f64 0, .string ⟨#[]⟩, .slice none 0 0, .slice none 0 0, .bool false, .string ⟨#[]⟩, .int .u8 0, .pointer none, .pointer none] 67)) := (Below.refl _ _).alloc (Nat.le_refl _) _
  have hL := h.below hbA
  have hrA := (hr.keep (Keep.below hbA fun _ hk => hk)).more fun q hq => Nat.lt_of_lt_of_le hq hbA.size
  have HTL := Lib.hid (toList_mat A n c (.pointer (some ⟨P, 0, none⟩)) (.pointer (some ⟨Q, 0, none⟩)) rows _ hrA (by omega) (by omega))
  have HB := Lib.hid (And.intro hbA (And.intro h (And.intro hP hQ)))
  have HRC := Lib.hid (And.intro hR (And.intro hC (And.intro hfl hN)))
  obtain ⟨hlt, hlte, r0, r1, r4, e0, e2, e3⟩ := hL
  clear hr hrA h hP hQ hbA hfl hN ht hR hC
  unfold FMat at e3
  go_enter Tryz.func36, Tryz.ntmps36
  go_wp2_with fail
  refine (len_any _ _ _ r4).mono ?_
  rintro e v1 ⟨rfl, rfl⟩
  go_wp2_with fail
  refine (back_any _ _ _ _ r1 r4 (by decide)).mono ?_
  rintro e v1 ⟨rfl, rfl⟩
  go_wp2_with fail
  refine HTL.out.mono ?_
  rintro e w1 ⟨z, rfl, hown, hb1⟩
  have hbw := HB.out.1.trans (hb1.mono HB.out.1.size)
  have Z1 := Lib.hid (Z0.out.below hb1)
  have hil : (inns rows.flatten).length = N := by rw [← HRC.out.2.2.1]; exact List.length_map _
  obtain ⟨ab, capA, rfl, hab, habl, hcapA, hcapM, hrow⟩ := hown.row (by intro h; rw [h] at hil; simp at hil; omega)
  rw [hil] at hcapA ⊢
  have hcapM' : capA ≤ 9223372036854775807 := by have h := hcapM; simp [maxLen] at h; omega
  have HROW := Lib.hid hrow
  have HCF := Lib.hid (calc_false LB E A n c P Q C R w1 (HB.out.2.1.below hbw) ((HB.out.2.2.1.keep (Keep.below hbw fun _ hk => hk)).more fun q hq => Nat.lt_of_lt_of_le hq hbw.size) ((HB.out.2.2.2.keep (Keep.below hbw fun _ hk => hk)).more fun q hq => Nat.lt_of_lt_of_le hq hbw.size) hR0)
  have HBW := Lib.hid hbw
  simp only [World.size_alloc] at hab
  have hab' : w.heap.size < ab := by omega
  clear hown hrow hil hb1 r0 r1 r4 e0 e2 e3 HTL hbw hcapM hab
  go_wp2_with fail
  refine HCF.out.mono ?_
  rintro e w2 ⟨rfl, hb2⟩
  have hbw2 := HBW.out.trans (hb2.mono HBW.out.size)
  have HB12 := Lib.hid hb2
  have HCT := Lib.hid (calc_true LB E A n c P Q C R w2 (HB.out.2.1.below hbw2) ((HB.out.2.2.1.keep (Keep.below hbw2 fun _ hk => hk)).more fun q hq => Nat.lt_of_lt_of_le hq hbw2.size) ((HB.out.2.2.2.keep (Keep.below hbw2 fun _ hk => hk)).more fun q hq => Nat.lt_of_lt_of_le hq hbw2.size) hC0)
  clear HCF hbw2 hb2
  go_wp2_with fail
  refine HCT.out.mono ?_
  rintro e w3 ⟨rfl, hb3⟩
  have hb13 := HB12.out.trans (hb3.mono HB12.out.size)
  have HB13 := Lib.hid hb13
  have hz3 := hb13.size
  clear HCT hb3 hb13 HB12
  have ho0 : Owns (w3.alloc (.cells #[] 62)) w3.heap.size 62 1 (.slice (some ⟨w3.heap.size, 0, none⟩) 0 0) [] := ⟨World.ownsRow_made w3 #[] 0 (Nat.le_refl _) (by decide) rfl, by simp⟩
  have HO0 := Lib.hid ho0
  clear ho0
  have hmk0 := make_rows0
  have hmkC := make_rows C hC1
  have hmkR := make_rowF R hR1
  go_wp2_with fail
  go_loopw [12, 13] (fun v i wr => ∃ (k q : Nat) (y : Value), k ≤ R ∧ Hid (q = k * C) ∧ q ≤ N ∧ i = .int .i64 q ∧ y = v ∧ SrcAt w3 wr ab C capA k y) (fun _ i _ => N - (intOf i).toNat)
  case atStart => exact ⟨0, 0, _, Nat.zero_le _, Lib.hid (Nat.zero_mul C).symm, Nat.zero_le _, rfl, rfl, (Below.refl _ _).alloc (Nat.le_refl _) _, HO0.out⟩
  case round =>
    obtain ⟨k, q, y, hk, HQ, hq, rfl, rfl, hbs, hown⟩ := hrel
    have HS := Lib.hid (And.intro hbs hown)
    have hszr := hbs.size
    clear hbs hown HO0
    by_cases hqN : q < N
    · have hkR : k < R := by
        rcases Nat.lt_or_ge k R with h | h
        · exact h
        · obtain rfl : k = R := by omega
          have := HQ.out; have := HRC.out.2.2.2; omega
      have hqC : q + C ≤ N := by have := (HNK.out k hkR).1; have := HQ.out; omega
      have hqcap : q < capA := by omega
      have hqcap2 : q + C ≤ capA := by omega
      have hlk : (pieces ab C capA k).length ≤ 1000000 := by rw [pieces_len]; omega
      go_wp2_with (at_builtin; refine wpList_append_box wr rfl (.tmp 58) (.tmp 65) 63 rfl w3.heap.size 62 _ 1 24 Tryz.underlying63 infoFs rfl (by decide) y (pieces ab C capA k) (by rfl) (by exact HS.out.2) #[.slice (some ⟨ab, q * 10, none⟩) C (capA - q)] rfl 1 _ (by rfl) (by simp) (by exact one_slice _ _ _) hlk (by decide) (by omega) ?_; intro v' w4 hown2 hg2 hat2 hbe2)
      have HF := Lib.hid (And.intro (HS.out.1.trans hbe2) hown2)
      clear hown2 hg2 hat2 hbe2
      go_roundw
      case rel => exact ⟨k + 1, q + C, _, hkR, Lib.hid (by rw [(HNK.out k hkR).2, HQ.out]), hqC, by go_num, rfl, HF.out.1, by rw [pieces_snoc]; unfold piece; rw [← HQ.out]; exact HF.out.2⟩
      case measure => simp [intOf]; omega
    · obtain rfl : N = q := by omega
      have hkR : R = k := by
        rcases Nat.lt_or_ge k R with h | h
        · have := (HNK.out k h).1; have := HQ.out; omega
        · omega
      subst hkR
      obtain ⟨sb, capS, rfl, hsb, hsbl, -, -, hrowS⟩ := HS.out.2.row (by intro h; have := pieces_len ab C capA R; rw [h] at this; simp at this; omega)
      rw [pieces_len]
      have HSR := Lib.hid hrowS
      obtain ⟨wM, rfl⟩ : ∃ wM : World, wM = wr := ⟨_, rfl⟩
      have HB1M := Lib.hid (HB13.out.trans (HS.out.1.mono hz3))
      have HMN := Lib.hid (MtAt.new wM R C rows)
      clear hrowS HS hmk0 hqN HQ hq hk HNK hN0
      go_wp2_with fail
      go_loopw [71] (fun i wr => ∃ k : Nat, k ≤ R ∧ i = .int .i64 k ∧ MtAt wM wr R C rows (fun _ => decide (0 < k)) (fun _ => k)) (fun i _ => R - (intOf i).toNat)
      case atStart => exact ⟨0, Nat.zero_le _, rfl, HMN.out.same (fun _ _ => by simp) (fun _ _ => rfl)⟩
      case round =>
        obtain ⟨k, hk, rfl, hat⟩ := hrel
        have HA := Lib.hid hat
        have hbe := hat.1
        have hGlt := hat.lt
        clear hat HMN
        by_cases hkR : k < R
        · obtain ⟨r, hr⟩ : ∃ r, rows[k]? = some r := ⟨_, List.getElem?_eq_getElem (by rw [HRC.out.1]; exact hkR)⟩
          have hrl : r.length = C := HRC.out.2.1 r (List.mem_of_getElem? hr)
          obtain ⟨o, ho⟩ : ∃ o, o = k * C * 10 := ⟨_, rfl⟩
          obtain ⟨cq, hcq⟩ : ∃ cq, cq = capA - k * C := ⟨_, rfl⟩
          have hps := (HSR.out k _ (pieces_get ab C capA R k hkR)).2 0 _ rfl
          unfold piece at hps
          rw [← ho, ← hcq] at hps
          have hs : wr.cell? ⟨sb, k, none⟩ = some (.slice (some ⟨ab, o, none⟩) C cq) := (hbe.cell (p := ⟨sb, k, none⟩) hsbl).trans (by simpa using hps)
          have hsbr : sb < wr.heap.size := Nat.lt_of_lt_of_le hsbl hbe.size
          have hmod : ((k : Int) % (R : Int)) = k := Int.emod_eq_of_lt (by omega) (by omega)
          have HR := Lib.hid (And.intro hr (And.intro hrl ho))
          clear hr hrl ho hcq hps hbe
          go_wp2_with fail
          try rw [hmod]
          clear hs hmod hsbr
          obtain ⟨wo, rfl⟩ : ∃ wo : World, wo = wr := ⟨_, rfl⟩
          go_loopw [81] (fun i wq => ∃ q : Nat, q ≤ C ∧ i = .int .i64 q ∧ MtAt wM wq R C rows (fun j => decide (0 < k ∨ j < q)) (fun j => if j < q then k + 1 else k)) (fun i _ => C - (intOf i).toNat)
          case atStart => exact ⟨0, Nat.zero_le _, rfl, HA.out.same (fun _ _ => by simp) (fun _ _ => by simp)⟩
          case round =>
            obtain ⟨q, hq, rfl, hat⟩ := hrel
            have HQ := Lib.hid hat
            have hGq := hat.lt
            by_cases hqC : q < C
            · obtain ⟨x, hx⟩ : ∃ x, r[q]? = some x := ⟨_, List.getElem?_eq_getElem (by rw [HR.out.2.1]; exact hqC)⟩
              obtain ⟨xx, s, bo, er, _, hinn⟩ := x.form10t
              have hflat := flatten_get rows C HRC.out.2.1 k q r x HR.out.1 hx
              have hR := HROW.out (k * C + q) x.inn (by show (rows.flatten.map Gl.inn)[k * C + q]? = _; rw [List.getElem?_map, hflat]; rfl)
              rw [hinn] at hR
              have hbx := HB1M.out.trans (hat.1.mono HB1M.out.size)
              have hadr : ∀ j, 0 + (k * C + q) * 10 + j = o + q * 10 + j := by intro j; rw [HR.out.2.2]; omega
              have hcell : ∀ j v, (fcells xx s bo er (tyOf x))[j]? = some v → wr.cell? ⟨ab, o + q * 10 + j, none⟩ = some v := by
                intro j v hj
                have := hR.2 j v hj
                rw [hadr] at this
                exact (hbx.cell (p := ⟨ab, o + q * 10 + j, none⟩) habl).trans this
              have habr : ab < wr.heap.size := Nat.lt_of_lt_of_le habl hbx.size
              have c0 : wr.cell? ⟨ab, o + q * 10, none⟩ = some (.string ⟨#[]⟩) := hcell 0 _ rfl
              have c1 : wr.cell? ⟨ab, o + q * 10 + 1, none⟩ = some (.float .f64 xx) := hcell 1 _ rfl
              have c2 : wr.cell? ⟨ab, o + q * 10 + 2, none⟩ = some (.string s) := hcell 2 _ rfl
              have c3 : wr.cell? ⟨ab, o + q * 10 + 3, none⟩ = some (.slice none 0 0) := hcell 3 _ rfl
              have c4 : wr.cell? ⟨ab, o + q * 10 + 4, none⟩ = some (.slice none 0 0) := hcell 4 _ rfl
              have c5 : wr.cell? ⟨ab, o + q * 10 + 5, none⟩ = some (.bool bo) := hcell 5 _ rfl
              have c6 : wr.cell? ⟨ab, o + q * 10 + 6, none⟩ = some (.string er) := hcell 6 _ rfl
              have c7 : wr.cell? ⟨ab, o + q * 10 + 7, none⟩ = some (.int .u8 (tyOf x)) := hcell 7 _ rfl
              have c8 : wr.cell? ⟨ab, o + q * 10 + 8, none⟩ = some (.pointer none) := hcell 8 _ rfl
              have c9 : wr.cell? ⟨ab, o + q * 10 + 9, none⟩ = some (.pointer none) := hcell 9 _ rfl
              have HX := Lib.hid (And.intro (colG_get rows q k r x HR.out.1 hx) (And.intro hinn (And.intro (show ∀ j, j < C → decide (0 < k ∨ j < q + 1) = (decide (0 < k ∨ j < q) || j == q) by intro j _; rw [Bool.eq_iff_iff]; simp; omega) (show ∀ j, j < C → (if j < q + 1 then k + 1 else k) = (if j = q then k + 1 else if j < q then k + 1 else k) by intro j _; split <;> split <;> (try split) <;> omega))))
              have hmod : ((q : Int) % (C : Int)) = q := Int.emod_eq_of_lt (by omega) (by omega)
              have hcnt : (if q < q then k + 1 else k) = k := if_neg (Nat.lt_irrefl q)
              have HCNT := Lib.hid hcnt
              have hbox : Below wr.heap.size wr (wr.alloc (.cells #[.string ⟨#[]⟩, .float .f64 xx, .string s, .slice none 0 0, .slice none 0 0, .bool bo, .string er, .int .u8 (tyOf x), .pointer none, .pointer none] 67)) := (Below.refl _ _).alloc (Nat.le_refl _) _
              have HQ2 := Lib.hid (hat.below hbox)
              have hBB : Blk (wr.alloc (.cells #[.string ⟨#[]⟩, .float .f64 xx, .string s, .slice none 0 0, .slice none 0 0, .bool bo, .string er, .int .u8 (tyOf x), .pointer none, .pointer none] 67)) wr.heap.size 67 #[.string ⟨#[]⟩, .float .f64 xx, .string s, .slice none 0 0, .slice none 0 0, .bool bo, .string er, .int .u8 (tyOf x), .pointer none, .pointer none] := Blk.new _ _ _
              have HBB := Lib.hid hBB
              clear hx hinn hflat hR hbx hadr hcell hcnt hbox hBB hat
              by_cases hk0 : k = 0
              · obtain ⟨n1, n2⟩ := HQ.out.nilAt hqC (by simp [hk0])
                have hmk := HQ2.out.make hqC (by simp [hk0]) (by simp [hk0])
                rw [World.setCell_alloc_past _ _ _ _ (by rw [World.size_alloc]; omega), World.setCell_alloc_past _ _ _ _ hGq, World.size_alloc] at hmk
                obtain ⟨X, hX⟩ : ∃ X, X = (((wr.setCell ⟨wM.heap.size, q, none⟩ (.slice (some ⟨wr.heap.size + 1, 0, none⟩) R R)).alloc (.cells #[.string ⟨#[]⟩, .float .f64 xx, .string s, .slice none 0 0, .slice none 0 0, .bool bo, .string er, .int .u8 (tyOf x), .pointer none, .pointer none] 67)).alloc (.cells (zerosF R) 67)) := ⟨_, rfl⟩
                rw [← hX] at hmk
                have hbB : Blk X wr.heap.size 67 #[.string ⟨#[]⟩, .float .f64 xx, .string s, .slice none 0 0, .slice none 0 0, .bool bo, .string er, .int .u8 (tyOf x), .pointer none, .pointer none] := by
                  rw [hX]
                  have h := Blk.new (wr.setCell ⟨wM.heap.size, q, none⟩ (.slice (some ⟨wr.heap.size + 1, 0, none⟩) R R)) 67 #[.string ⟨#[]⟩, .float .f64 xx, .string s, .slice none 0 0, .slice none 0 0, .bool bo, .string er, .int .u8 (tyOf x), .pointer none, .pointer none]
                  rw [size_setCell] at h
                  exact h.alloc _
                obtain ⟨g, t0, tg, tgl, tc, tf, tput⟩ := hmk.get hqC (by simp) (r := k) HCNT.out
                have b0 : X.cell? ⟨wr.heap.size, 0, none⟩ = some (.string ⟨#[]⟩) := hbB.cell 0
                have b1 : X.cell? ⟨wr.heap.size, 1, none⟩ = some (.float .f64 xx) := hbB.cell 1
                have b2 : X.cell? ⟨wr.heap.size, 2, none⟩ = some (.string s) := hbB.cell 2
                have b3 : X.cell? ⟨wr.heap.size, 3, none⟩ = some (.slice none 0 0) := hbB.cell 3
                have b4 : X.cell? ⟨wr.heap.size, 4, none⟩ = some (.slice none 0 0) := hbB.cell 4
                have b5 : X.cell? ⟨wr.heap.size, 5, none⟩ = some (.bool bo) := hbB.cell 5
                have b6 : X.cell? ⟨wr.heap.size, 6, none⟩ = some (.string er) := hbB.cell 6
                have b7 : X.cell? ⟨wr.heap.size, 7, none⟩ = some (.int .u8 (tyOf x)) := hbB.cell 7
                have b8 : X.cell? ⟨wr.heap.size, 8, none⟩ = some (.pointer none) := hbB.cell 8
                have b9 : X.cell? ⟨wr.heap.size, 9, none⟩ = some (.pointer none) := hbB.cell 9
                obtain ⟨u0, d0⟩ := tc (k * 10) (by omega)
                obtain ⟨u1, d1⟩ := tc (k * 10 + 1) (by omega)
                obtain ⟨u2, d2⟩ := tc (k * 10 + 2) (by omega)
                obtain ⟨u3, d3⟩ := tc (k * 10 + 3) (by omega)
                obtain ⟨u4, d4⟩ := tc (k * 10 + 4) (by omega)
                obtain ⟨u5, d5⟩ := tc (k * 10 + 5) (by omega)
                obtain ⟨u6, d6⟩ := tc (k * 10 + 6) (by omega)
                obtain ⟨u7, d7⟩ := tc (k * 10 + 7) (by omega)
                obtain ⟨u8, d8⟩ := tc (k * 10 + 8) (by omega)
                obtain ⟨u9, d9⟩ := tc (k * 10 + 9) (by omega)
                clear hmk HBB HQ2 hk0
                have HT := Lib.hid tput
                have hbl := hbB.lt
                clear tc tput hbB
                go_wp2_with fail
                rw [← hX]
                clear hX
                go_region
                go_wp2_with fail
                go_roundw
                case rel => exact ⟨q + 1, by omega, by go_num, ((HT.out x _ _ _ _ _ _ _ _ _ _ HX.out.1 hkR HX.out.2.1).below (Below.drew (Below.refl _ _))).same HX.out.2.2.1 HX.out.2.2.2⟩
                case measure => simp [intOf]; omega
              · have hkp : 0 < k := by omega
                have hRz : ((R : Int) == 0) = false := by rw [beq_eq_false_iff_ne]; omega
                obtain ⟨X, hX⟩ : ∃ X, X = (wr.alloc (.cells #[.string ⟨#[]⟩, .float .f64 xx, .string s, .slice none 0 0, .slice none 0 0, .bool bo, .string er, .int .u8 (tyOf x), .pointer none, .pointer none] 67)) := ⟨_, rfl⟩
                have hmk := HQ2.out
                have hbB := HBB.out
                rw [← hX] at hmk hbB
                obtain ⟨gq, m0, -⟩ := HQ.out.get hqC (by simp [hkp]) (r := k) HCNT.out
                obtain ⟨g, t0, tg, tgl, tc, tf, tput⟩ := hmk.get hqC (by simp [hkp]) (r := k) HCNT.out
                have b0 : X.cell? ⟨wr.heap.size, 0, none⟩ = some (.string ⟨#[]⟩) := hbB.cell 0
                have b1 : X.cell? ⟨wr.heap.size, 1, none⟩ = some (.float .f64 xx) := hbB.cell 1
                have b2 : X.cell? ⟨wr.heap.size, 2, none⟩ = some (.string s) := hbB.cell 2
                have b3 : X.cell? ⟨wr.heap.size, 3, none⟩ = some (.slice none 0 0) := hbB.cell 3
                have b4 : X.cell? ⟨wr.heap.size, 4, none⟩ = some (.slice none 0 0) := hbB.cell 4
                have b5 : X.cell? ⟨wr.heap.size, 5, none⟩ = some (.bool bo) := hbB.cell 5
                have b6 : X.cell? ⟨wr.heap.size, 6, none⟩ = some (.string er) := hbB.cell 6
                have b7 : X.cell? ⟨wr.heap.size, 7, none⟩ = some (.int .u8 (tyOf x)) := hbB.cell 7
                have b8 : X.cell? ⟨wr.heap.size, 8, none⟩ = some (.pointer none) := hbB.cell 8
                have b9 : X.cell? ⟨wr.heap.size, 9, none⟩ = some (.pointer none) := hbB.cell 9
                obtain ⟨u0, d0⟩ := tc (k * 10) (by omega)
                obtain ⟨u1, d1⟩ := tc (k * 10 + 1) (by omega)
                obtain ⟨u2, d2⟩ := tc (k * 10 + 2) (by omega)
                obtain ⟨u3, d3⟩ := tc (k * 10 + 3) (by omega)
                obtain ⟨u4, d4⟩ := tc (k * 10 + 4) (by omega)
                obtain ⟨u5, d5⟩ := tc (k * 10 + 5) (by omega)
                obtain ⟨u6, d6⟩ := tc (k * 10 + 6) (by omega)
                obtain ⟨u7, d7⟩ := tc (k * 10 + 7) (by omega)
                obtain ⟨u8, d8⟩ := tc (k * 10 + 8) (by omega)
                obtain ⟨u9, d9⟩ := tc (k * 10 + 9) (by omega)
                clear hmk HBB HQ2
                have HT := Lib.hid tput
                have hbl := hbB.lt
                clear tc tput hbB
                go_wp2_with fail
                rw [← hX]
                clear hX
                go_region
                go_wp2_with fail
                go_roundw
                case rel => exact ⟨q + 1, by omega, by go_num, ((HT.out x _ _ _ _ _ _ _ _ _ _ HX.out.1 hkR HX.out.2.1).below (Below.drew (Below.refl _ _))).same (fun j _ => by simp [hkp]) HX.out.2.2.2⟩
                case measure => simp [intOf]; omega
            · obtain rfl : C = q := by omega
              go_wp2_with fail
              go_roundw
              case rel => exact ⟨k + 1, by omega, by go_num, HQ.out.same (fun j hj => by simp [hj]) (fun j hj => by simp [hj])⟩
              case measure => simp [intOf]; omega
        · obtain rfl : R = k := by omega
          have hrs := HA.out.rows (fun j _ => by simp [hR0]) (fun _ _ => rfl) HRC.out.1 hR0 hC0
          have HRS := Lib.hid (And.intro hrs (HB1M.out.trans (hbe.mono HB1M.out.size)))
          have hw1M := HB1M.out.size
          have hbe' := Lib.hid hbe
          clear hrs hbe
          go_wp2_with fail
          refine (newMatrix_any _ _ _ _).mono ?_
          rintro e w5 ⟨rfl, hb5⟩
          have hb15 := HRS.out.2.trans (hb5.mono HRS.out.2.size)
          obtain ⟨zl, z0, z1, z2, z3, z4, z5, z6, z7, z8, z9, zf⟩ := (Z1.out.below hb15).facts
          have hr5 : RowsIs 10 w5 (New (w.heap.size + 1) w5) (some ⟨wM.heap.size, 0, none⟩) C ((trg rows C).map inns) := (HRS.out.1.keep (Keep.below hb5 fun _ hq => hq.2)).more fun q hq => ⟨by have := hq.1; have := Z1.out.lt; omega, Nat.lt_of_lt_of_le hq.2 hb5.size⟩
          have HF := Lib.hid (And.intro hr5 (HBW.out.trans (hb15.mono HBW.out.size)))
          clear hb5 hb15 hr5
          go_wp2
          exact bodyPost_ret (v := (.agg #[.string ⟨#[]⟩, .float .f64 0, .string ⟨#[]⟩, .slice none 0 0, .slice (some ⟨wM.heap.size, 0, none⟩) C C, .bool false, .string ⟨#[]⟩, .int .u8 4, .pointer none, .pointer none])) (by simp [results, Tryz.results36, go_sem, zl, z0, z1, z2, z3, z4, z5, z6, z7, z8, z9, zf]) rfl (MatPost.mk10 (trg_len rows C) HF.out.1 HF.out.2 _ _ _ _ _ _ _ _ _ _)

end Go.Proofs.YtdpkjhohklfieaaGreat
