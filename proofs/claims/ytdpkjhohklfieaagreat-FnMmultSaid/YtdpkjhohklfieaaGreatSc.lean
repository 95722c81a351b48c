/- counta, blank: what the reference says of the cells of arguments. -/
import Derived.Test.YtdpkjhohklfieaaGreatSt
set_option linter.unusedSimpArgs false
set_option linter.unusedVariables false
namespace Go.Proofs.YtdpkjhohklfieaaGreat
open Go.RowKit
set_option maxRecDepth 100000
set_option maxHeartbeats 1000000

/-- Whether a single value is counted. -/
def cnt (x : Fv) : Bool := x.k == 1 || x.k == 2 || x.k == 3
def kn (xs : List Fv) : Nat := (xs.filter cnt).length
theorem kn_snoc (xs : List Fv) (k : Nat) (x : Fv) (h : xs[k]? = some x) : kn (xs.take (k + 1)) = kn (xs.take k) + (if cnt x then 1 else 0) := by
  unfold kn
  rw [List.take_add_one, h]
  simp only [Option.toList, List.filter_append, List.length_append]
  cases hx : cnt x <;> simp [hx]
theorem kn_le (xs : List Fv) : kn xs ≤ xs.length := List.length_filter_le _ _
/-- A value that counts these, or of which nothing is said. -/
def CountW (xs : List Fv) (y : Fv) : Prop := y = doubtFv ∨ (y = ⟨1, kn xs, 1, ⟨#[]⟩⟩ ∧ ∀ x ∈ xs, x.k ≠ 4 ∧ x.k ≠ 6)
def CountPost (xs : List Fv) (w : World) (e : Ending) (w' : World) : Prop := ∃ y, CountW xs y ∧ e = .returned (.agg #[.int .i64 y.k, .int .i64 y.n, .int .i64 y.d, .string y.s, .slice none 0 0]) ∧ Below w.heap.size w w'

/-- While single values are counted: the ways of a value. -/
def CntAt (xs : List Fv) (k : Nat) (v : Value) : Prop := v = .int .i64 (kn (xs.take k) : Nat) ∧ kn (xs.take k) ≤ k ∧ ∀ x ∈ xs.take k, x.k ≠ 4 ∧ x.k ≠ 6
theorem CntAt.step {xs : List Fv} {k : Nat} {v : Value} {x : Fv} (h : CntAt xs k v) (hx : xs[k]? = some x) (h4 : x.k ≠ 4) (h6 : x.k ≠ 6) (v' : Value) (hv : v' = .int .i64 ((kn (xs.take k) + (if cnt x then 1 else 0) : Nat) : Int)) : CntAt xs (k + 1) v' := by
  obtain ⟨_, h2, h3⟩ := h
  have hs := kn_snoc xs k x hx
  refine ⟨by rw [hv, hs], by rw [hs]; split <;> omega, ?_⟩
  intro y hy
  rw [List.take_add_one, hx] at hy
  rcases List.mem_append.1 hy with hy | hy
  · exact h3 y hy
  · simp at hy; subst hy; exact ⟨h4, h6⟩

set_option maxHeartbeats 4000000 in
theorem counta_any (b off n c : Nat) (G : List Ve) (M : List Mv) (w : World) (hn : n = M.length) (hn0 : 0 < n) (hargs : ArgsIn w b off G M) (hlen : n ≤ 1000) (htot : (flatAll M).length ≤ 100000) (hk5 : ∀ x ∈ flatAll M, x.Ok) :
    Calls Tryz.prog 78 #[.slice (some ⟨b, off, none⟩) n c] w (CountPost (flatAll M) w) := by
  have HN := Lib.hid hn
  have HA := Lib.hid hargs
  have HT := Lib.hid htot
  have H5 := Lib.hid hk5
  have z0 := Zero5.new w
  have Z0 := Lib.hid z0
  have hb := hargs.1
  clear hn hargs htot z0 hk5
  go_enter Tryz.func78, Tryz.ntmps78
  go_wp2_with fail
  have hbA : Below w.heap.size w (w.alloc (.cells #[.int .i64 0, .int .i64 0, .int .i64 0, .string ⟨#[]⟩, .slice none 0 0] 27)) := (Below.refl _ _).alloc (Nat.le_refl _) _
  obtain ⟨W, hW⟩ : ∃ W, W = w.alloc (.cells #[.int .i64 0, .int .i64 0, .int .i64 0, .string ⟨#[]⟩, .slice none 0 0] 27) := ⟨_, rfl⟩
  rw [← hW] at hbA Z0 ⊢
  clear hW
  go_loop [4] (fun i => ∃ k : Nat, k ≤ n ∧ i = .int .i64 k) (fun i => n - (intOf i).toNat)
  case atStart => exact ⟨0, Nat.zero_le _, rfl⟩
  case round =>
    obtain ⟨k, hk, rfl⟩ := hrel
    by_cases hlt : k < n
    · obtain ⟨v, hv⟩ : ∃ v, G[k]? = some v := ⟨_, List.getElem?_eq_getElem (by rw [HA.out.2.2.1.1, ← HN.out]; exact hlt)⟩
      have hR := (HA.out.below hbA).2.1 k v.cells (by simp [hv])
      have c0 : W.cell? ⟨b, off + k * 5, none⟩ = some (.int .i64 v.x.k) := hR.2 0 _ rfl
      clear hv hR
      by_cases h0 : v.x.k = 0
      · have h0' : (v.x.k == 0) = true := by simpa using h0
        clear h0
        go_wp2_with fail
        refine (doubt_any _).mono ?_
        rintro e w1 ⟨rfl, hb1⟩
        obtain ⟨z, q0, q1, q2, q3, q4, qf⟩ := Z0.out.below hb1
        have hbw := hbA.trans (hb1.mono hbA.size)
        clear hb1 c0
        go_wp2
        exact bodyPost_ret (v := (.agg #[.int .i64 6, .int .i64 0, .int .i64 0, .string ⟨#[]⟩, .slice none 0 0])) (by simp [results, Tryz.results78, go_sem, z, q0, q1, q2, q3, q4, qf]) rfl ⟨doubtFv, .inl rfl, rfl, below5 hbw (Nat.le_refl _)⟩
      · have h0' : (v.x.k == 0) = false := by simpa using h0
        clear h0
        go_wp2_with fail
        go_round
        case rel => exact ⟨k + 1, by omega, by go_num⟩
        case measure => simp [intOf]; omega
    · obtain rfl : k = n := by omega
      obtain ⟨p, hp⟩ : ∃ p, p = (flatAll M).length := ⟨_, rfl⟩
      have hpl : p ≤ 100000 := by rw [hp]; exact HT.out
      have HP := Lib.hid hp
      clear hp
      go_wp2_with fail
      refine (flat_args b off k c G M W HN.out (HA.out.below hbA) hlen HT.out).mono ?_
      rintro e w1 ⟨z, rfl, hown, hb1⟩
      have hbw := hbA.trans (hb1.mono hbA.size)
      have HZ := Lib.hid (Z0.out.below hb1)
      obtain ⟨A', cap', rfl, hsrc⟩ := hown.src
      rw [show (fvs (flatAll M)).length = p by rw [HP.out]; simp [fvs]]
      have HS := Lib.hid hsrc
      clear hown hsrc hb1
      go_wp2_with fail
      go_loop [3, 6] (fun v i => ∃ (q : Nat), q ≤ p ∧ i = .int .i64 q ∧ CntAt (flatAll M) q v) (fun _ i => p - (intOf i).toNat)
      case atStart => exact ⟨0, Nat.zero_le _, rfl, rfl, Nat.le_refl _, by simp⟩
      case round =>
        obtain ⟨q, hq, rfl, hca⟩ := hrel
        have HC := Lib.hid hca
        obtain ⟨K, hK⟩ : ∃ K, K = kn ((flatAll M).take q) := ⟨_, rfl⟩
        obtain ⟨hv3, hkl, _⟩ := hca
        rw [← hK] at hv3 hkl
        subst hv3
        by_cases hqp : q < p
        · obtain ⟨x, hx⟩ : ∃ x, (flatAll M)[q]? = some x := ⟨_, List.getElem?_eq_getElem (by rw [← HP.out]; exact hqp)⟩
          rcases HS.out with hnil | ⟨b1, off1, rfl, hb1, hrow⟩
          · exfalso
            have : flatAll M = [] := by simpa [fvs] using hnil
            rw [this] at hx; simp at hx
          have hR := hrow q x.cells (by simp [fvs, hx])
          have c0 : w1.cell? ⟨b1, off1 + q * 5, none⟩ = some (.int .i64 x.k) := hR.2 0 _ rfl
          have c3 : w1.cell? ⟨b1, off1 + q * 5 + 3, none⟩ = some (.string x.s) := hR.2 3 _ rfl
          have hxk : x.k = 0 ∨ x.k = 1 ∨ x.k = 2 ∨ x.k = 3 ∨ x.k = 4 ∨ x.k = 6 := by
            have h := H5.out x (List.mem_of_getElem? hx)
            simp only [Fv.Ok] at h
            omega
          have hstep : ∀ v', x.k ≠ 4 → x.k ≠ 6 → v' = .int .i64 ((K + (if cnt x then 1 else 0) : Nat) : Int) → CntAt (flatAll M) (q + 1) v' := by
            intro v' h4 h6 hv'
            exact HC.out.step hx h4 h6 v' (by rw [hv', hK])
          have HST := Lib.hid hstep
          obtain ⟨xk, xn, xd, xs⟩ := x
          simp only at c0 c3 hxk
          clear hx hrow hR hstep hK
          rcases hxk with rfl | rfl | rfl | rfl | rfl | rfl
          · go_wp2_with fail
            go_round
            case rel => exact ⟨q + 1, by omega, by go_num, HST.out _ (by simp) (by simp) (by simp [cnt])⟩
            case measure => simp [intOf]; omega
          · go_wp2_with fail
            go_round
            case rel => exact ⟨q + 1, by omega, by go_num, HST.out _ (by simp) (by simp) (by simp [cnt])⟩
            case measure => simp [intOf]; omega
          · by_cases hs : xs.toList = []
            · have hs2 : (xs.toList == []) = true := by simp [hs]
              go_wp2_with fail
              refine (doubt_any _).mono ?_
              rintro e w2 ⟨rfl, hb2⟩
              obtain ⟨z, q0, q1, q2, q3, q4, qf⟩ := HZ.out.below hb2
              have hbw2 := hbw.trans (hb2.mono hbw.size)
              clear hb2 c0 c3 hs hs2
              go_wp2
              exact bodyPost_ret (v := (.agg #[.int .i64 6, .int .i64 0, .int .i64 0, .string ⟨#[]⟩, .slice none 0 0])) (by simp [results, Tryz.results78, go_sem, z, q0, q1, q2, q3, q4, qf]) rfl ⟨doubtFv, .inl rfl, rfl, below5 hbw2 (Nat.le_refl _)⟩
            · have hs2 : (xs.toList == []) = false := by simpa using hs
              have hs3 : (!xs.toList.isEmpty) = true := by cases h : xs.toList; exact absurd h hs; rfl
              go_wp2_with fail
              go_round
              case rel => exact ⟨q + 1, by omega, by go_num, HST.out _ (by simp) (by simp) (by simp [cnt])⟩
              case measure => simp [intOf]; omega
          · go_wp2_with fail
            go_round
            case rel => exact ⟨q + 1, by omega, by go_num, HST.out _ (by simp) (by simp) (by simp [cnt])⟩
            case measure => simp [intOf]; omega
          · go_wp2_with fail
            refine (doubt_any _).mono ?_
            rintro e w2 ⟨rfl, hb2⟩
            obtain ⟨z, q0, q1, q2, q3, q4, qf⟩ := HZ.out.below hb2
            have hbw2 := hbw.trans (hb2.mono hbw.size)
            clear hb2 c0 c3
            go_wp2
            exact bodyPost_ret (v := (.agg #[.int .i64 6, .int .i64 0, .int .i64 0, .string ⟨#[]⟩, .slice none 0 0])) (by simp [results, Tryz.results78, go_sem, z, q0, q1, q2, q3, q4, qf]) rfl ⟨doubtFv, .inl rfl, rfl, below5 hbw2 (Nat.le_refl _)⟩
          · go_wp2_with fail
            refine (doubt_any _).mono ?_
            rintro e w2 ⟨rfl, hb2⟩
            obtain ⟨z, q0, q1, q2, q3, q4, qf⟩ := HZ.out.below hb2
            have hbw2 := hbw.trans (hb2.mono hbw.size)
            clear hb2 c0 c3
            go_wp2
            exact bodyPost_ret (v := (.agg #[.int .i64 6, .int .i64 0, .int .i64 0, .string ⟨#[]⟩, .slice none 0 0])) (by simp [results, Tryz.results78, go_sem, z, q0, q1, q2, q3, q4, qf]) rfl ⟨doubtFv, .inl rfl, rfl, below5 hbw2 (Nat.le_refl _)⟩
        · obtain rfl : q = p := by omega
          have hfin : CountW (flatAll M) ⟨1, K, 1, ⟨#[]⟩⟩ := by
            obtain ⟨_, _, h3⟩ := HC.out
            rw [List.take_of_length_le (by rw [HP.out]; exact Nat.le_refl _)] at h3 hK
            exact .inr ⟨by rw [hK], h3⟩
          have HF := Lib.hid hfin
          clear hfin hK
          go_wp2_with fail
          refine (int_ok _ _ (by omega) (by omega)).mono ?_
          rintro e w2 ⟨rfl, hb2⟩
          obtain ⟨z, q0, q1, q2, q3, q4, qf⟩ := HZ.out.below hb2
          have hbw2 := hbw.trans (hb2.mono hbw.size)
          clear hb2
          go_wp2
          exact bodyPost_ret (v := (.agg #[.int .i64 1, .int .i64 K, .int .i64 1, .string ⟨#[]⟩, .slice none 0 0])) (by simp [results, Tryz.results78, go_sem, z, q0, q1, q2, q3, q4, qf]) rfl ⟨⟨1, K, 1, ⟨#[]⟩⟩, HF.out, rfl, below5 hbw2 (Nat.le_refl _)⟩

end Go.Proofs.YtdpkjhohklfieaaGreat
