/- What the reference says of tables: Flat of arguments, kinds, counta, blank. -/
import Derived.Test.YtdpkjhohklfieaaGreatGa
import Derived.Test.YtdpkjhohklfieaaGreatTc
import Derived.BigQuiet
import Derived.Deep.QuietTactic
set_option linter.unusedSimpArgs false
set_option linter.unusedVariables false
namespace Go.Proofs.YtdpkjhohklfieaaGreat
open Go.RowKit
set_option maxRecDepth 100000
set_option maxHeartbeats 1000000

theorem flat_args (b off n c : Nat) (G : List Ve) (M : List Mv) (w : World) (hn : n = M.length) (hargs : ArgsIn w b off G M) (hlen : n ≤ 1000) (htot : (flatAll M).length ≤ 100000) :
    Calls Tryz.prog 24 #[.slice (some ⟨b, off, none⟩) n c] w (MadePost 27 5 (fvs (flatAll M)) w) := by
  obtain ⟨hb, hr, hall, hok⟩ := hargs
  obtain ⟨els, e1, e2, e3, e4⟩ := leads_all 0 hall hok
  rw [hn, ← e2, ← e3]
  exact flat_any 2 w.heap.size (some ⟨b, off, none⟩) c els w (by rw [e2, ← hn]; exact hlen) (.inr ⟨b, off, rfl, hb, by rw [e1]; exact hr⟩) (Nat.le_refl _) e4 (by rw [e3]; exact htot)

/-- Whether all single values are of some kinds. -/
def kindsB (ls : List Int) (xs : List Fv) : Bool := xs.all fun x => ls.any fun l => x.k == l
theorem kindsB_stop {ls : List Int} {xs : List Fv} {k : Nat} {x : Fv} (h : xs[k]? = some x) (hx : (ls.any fun l => x.k == l) = false) : kindsB ls xs = false := by
  unfold kindsB
  rw [List.all_eq_false]
  exact ⟨x, List.mem_of_getElem? h, by simp only [hx]; simp⟩
theorem kindsB_step {ls : List Int} {xs : List Fv} {k : Nat} {x : Fv} (h : xs[k]? = some x) (hx : (ls.any fun l => x.k == l) = true) (hk : kindsB ls (xs.take k) = true) : kindsB ls (xs.take (k + 1)) = true := by
  unfold kindsB at *
  rw [List.take_add_one, h, List.all_append, hk]
  simpa using hx
def IsAt (ls : List Int) (x : Fv) (q : Nat) (v : Value) : Prop := v = .bool ((ls.take q).any fun l => x.k == l)

set_option maxHeartbeats 4000000 in
theorem kinds_mat (v : Ve) (m : Mv) (A1 : Option Addr) (c1 : Nat) (ls : List Int) (w : World) (hv : VIs w (· < w.heap.size) v m) (hm : m.Ok) (h5 : v.x.k = 5) (htot : (flatM m).length ≤ 100000) (hl : ls.length ≤ 10) (hls : Src w w.heap.size A1 1 (ls.map fun l => [.int .i64 l])) :
    Calls Tryz.prog 86 #[(.agg #[.int .i64 v.x.k, .int .i64 v.x.n, .int .i64 v.x.d, .string v.x.s, .slice v.A v.m v.c]), .slice A1 ls.length c1] w fun e w' => e = .returned (.bool (kindsB ls (flatM m))) ∧ Below w.heap.size w w' := by
  obtain ⟨p, hp⟩ : ∃ p, p = (flatM m).length := ⟨_, rfl⟩
  obtain ⟨u, hu⟩ : ∃ u, u = ls.length := ⟨_, rfl⟩
  rw [← hp] at htot
  rw [← hu] at hl
  rw [← hu]
  have HP := Lib.hid hp
  have HU := Lib.hid hu
  obtain ⟨⟨vk, vn, vd, vs⟩, vA, vm, vc⟩ := v
  simp only at h5
  subst h5
  have HV := Lib.hid (And.intro hv hm)
  have HLS := Lib.hid hls
  clear hp hu hv hm hls
  go_enter Tryz.func86, Tryz.ntmps86
  go_wp2_with fail
  obtain ⟨W, hW⟩ : ∃ W, W = w.alloc (.cells #[.int .i64 5, .int .i64 vn, .int .i64 vd, .string vs, .slice vA vm vc] 27) := ⟨_, rfl⟩
  have hbW : Below w.heap.size w W := by rw [hW]; exact (Below.refl _ _).alloc (Nat.le_refl _) _
  have hsW : W.heap.size = w.heap.size + 1 := by rw [hW]; simp
  have HF : Hid (Calls Tryz.prog 24 #[.slice (some ⟨w.heap.size + 1, 0, none⟩) 1 1] (W.alloc (.cells #[.int .i64 5, .int .i64 vn, .int .i64 vd, .string vs, .slice vA vm vc] 27)) (MadePost 27 5 (fvs (flatM m)) (W.alloc (.cells #[.int .i64 5, .int .i64 vn, .int .i64 vd, .string vs, .slice vA vm vc] 27)))) := by
    have hb2 : Below w.heap.size w (W.alloc (.cells #[.int .i64 5, .int .i64 vn, .int .i64 vd, .string vs, .slice vA vm vc] 27)) := hbW.alloc (by omega) _
    have hr := row_one W 27 #[.int .i64 5, .int .i64 vn, .int .i64 vd, .string vs, .slice vA vm vc]
    rw [hsW] at hr
    have hl := (leads_of 0 HV.out.1 HV.out.2).below hb2 (Nat.le_refl _)
    have := flat_any 2 (w.heap.size + 2) (some ⟨w.heap.size + 1, 0, none⟩) 1 [([.int .i64 5, .int .i64 vn, .int .i64 vd, .string vs, .slice vA vm vc], flatM m)] _ (by simp) (.inr ⟨_, 0, rfl, by omega, hr⟩) (by simp; omega)
      (by intro e he; simp at he; subst he; exact hl.more (by omega)) (by simp [leaves]; rw [← HP.out]; exact htot)
    simp only [leaves, List.map_cons, List.map_nil, List.flatten_cons, List.flatten_nil, List.append_nil] at this
    exact Lib.hid this
  rw [hW] at HF
  have hbA : Below w.heap.size w ((w.alloc (.cells #[.int .i64 5, .int .i64 vn, .int .i64 vd, .string vs, .slice vA vm vc] 27)).alloc (.cells #[.int .i64 5, .int .i64 vn, .int .i64 vd, .string vs, .slice vA vm vc] 27)) := ((Below.refl _ _).alloc (Nat.le_refl _) _).alloc (by simp) _
  clear hbW hsW hW
  clear W
  refine HF.out.mono ?_
  rintro e w1 ⟨z, rfl, hown, hb1⟩
  have hbw := hbA.trans (hb1.mono (by simp; omega))
  obtain ⟨A', cap', rfl, hsrc⟩ := hown.src
  rw [show (fvs (flatM m)).length = p by rw [HP.out]; simp [fvs]]
  have HS := Lib.hid hsrc
  clear hown hsrc hb1 hbA HF
  go_wp2_with fail
  go_loopw [6] (fun i wr => ∃ k : Nat, k ≤ p ∧ i = .int .i64 k ∧ Below w1.heap.size w1 wr ∧ kindsB ls ((flatM m).take k) = true) (fun i _ => p - (intOf i).toNat)
  case atStart => exact ⟨0, Nat.zero_le _, rfl, Below.refl _ _, rfl⟩
  case round =>
    obtain ⟨k, hk, rfl, hbe, hkb⟩ := hrel
    have HK := Lib.hid hkb
    clear hkb
    by_cases hlt : k < p
    · obtain ⟨x, hx⟩ : ∃ x, (flatM m)[k]? = some x := ⟨_, List.getElem?_eq_getElem (by rw [← HP.out]; exact hlt)⟩
      rcases HS.out with hnil | ⟨b, off, rfl, hb, hrow⟩
      · exfalso
        have : flatM m = [] := by simpa [fvs] using hnil
        rw [this] at hx; simp at hx
      have HX := Lib.hid hx
      have HR := Lib.hid (hrow k x.cells (by simp [fvs, hx]))
      clear hx hrow
      go_wp2_with fail
      obtain ⟨wo, rfl⟩ : ∃ wo : World, wo = wr := ⟨_, rfl⟩
      go_loopw [7, 8] (fun v i wq => ∃ (q : Nat), q ≤ u ∧ i = .int .i64 q ∧ Below wo.heap.size wo wq ∧ IsAt ls x q v) (fun _ i _ => u - (intOf i).toNat)
      case atStart => exact ⟨0, Nat.zero_le _, rfl, Below.refl _ _, rfl⟩
      case round =>
        obtain ⟨q, hq, rfl, hbq, hia⟩ := hrel
        have hbw1 : Below w1.heap.size w1 wr := hbe.trans (hbq.mono hbe.size)
        by_cases hqu : q < u
        · obtain ⟨l, hl'⟩ : ∃ l, ls[q]? = some l := ⟨_, List.getElem?_eq_getElem (by rw [← HU.out]; exact hqu)⟩
          rcases HLS.out with hnil | ⟨b1, off1, rfl, hb1, hrow1⟩
          · exfalso
            have : ls = [] := by simpa using hnil
            rw [this] at hl'; simp at hl'
          have c0 : wr.cell? ⟨b, off + k * 5, none⟩ = some (.int .i64 x.k) := (hbw1.cell (p := ⟨b, off + k * 5, none⟩) hb).trans (HR.out.2 0 _ rfl)
          have d0 : wr.cell? ⟨b1, off1 + q, none⟩ = some (.int .i64 l) := by
            have := (hrow1 q [.int .i64 l] (by simp [hl'])).2 0 _ rfl
            rw [Nat.mul_one, Nat.add_zero] at this
            exact ((hbw.trans (hbw1.mono hbw.size)).cell (p := ⟨b1, off1 + q, none⟩) hb1).trans this
          have hnext : ∀ bb, (ls.take q).any (fun l => x.k == l) = bb → IsAt ls x (q + 1) (.bool (bb || (x.k == l))) := by
            intro bb hbb
            unfold IsAt
            rw [List.take_add_one, hl', List.any_append, hbb]; simp
          have HNX := Lib.hid hnext
          clear hl' hrow1 hnext
          cases hbb : (ls.take q).any fun l => x.k == l
          · have hv7 : u7 = .bool false := by rw [← hbb]; exact hia
            subst hv7
            have HNX2 := Lib.hid (HNX.out _ hbb)
            clear hbb hia HNX
            go_wp2_with fail
            go_quiet (fail)
            go_wp2_with fail
            go_roundw
            case rel => exact ⟨q + 1, by omega, by go_num, Below.dN hbq _, by have := HNX2.out; simpa using this⟩
            case measure => simp [intOf]; omega
          · have hv7 : u7 = .bool true := by rw [← hbb]; exact hia
            subst hv7
            have HNX2 := Lib.hid (HNX.out _ hbb)
            clear hbb hia HNX
            go_wp2_with fail
            go_quiet (fail)
            go_wp2_with fail
            go_roundw
            case rel => exact ⟨q + 1, by omega, by go_num, Below.dN hbq _, by have := HNX2.out; simpa using this⟩
            case measure => simp [intOf]; omega
        · obtain rfl : q = u := by omega
          cases hbb : ls.any fun l => x.k == l
          · have hv7 : u7 = .bool false := by
              rw [← hbb]
              have := hia
              unfold IsAt at this
              rwa [List.take_of_length_le (by rw [HU.out]; exact Nat.le_refl _)] at this
            subst hv7
            have hfin := kindsB_stop HX.out hbb
            have HFIN := Lib.hid hfin
            clear hfin hbb hia
            go_wp2
            go_ret
            exact ⟨by rw [HFIN.out]; rfl, hbw.trans (hbw1.mono hbw.size)⟩
          · have hv7 : u7 = .bool true := by
              rw [← hbb]
              have := hia
              unfold IsAt at this
              rwa [List.take_of_length_le (by rw [HU.out]; exact Nat.le_refl _)] at this
            subst hv7
            have hfin := kindsB_step HX.out hbb HK.out
            have HFIN := Lib.hid hfin
            clear hfin hbb hia
            go_wp2
            go_roundw
            case rel => exact ⟨k + 1, by omega, by go_num, hbw1, HFIN.out⟩
            case measure => simp [intOf]; omega
    · obtain rfl : k = p := by omega
      have hfin := HK.out
      rw [List.take_of_length_le (by rw [HP.out]; exact Nat.le_refl _)] at hfin
      have HFIN := Lib.hid hfin
      clear hfin
      go_wp2
      go_ret
      exact ⟨by rw [HFIN.out]; rfl, hbw.trans (hbe.mono hbw.size)⟩

end Go.Proofs.YtdpkjhohklfieaaGreat
