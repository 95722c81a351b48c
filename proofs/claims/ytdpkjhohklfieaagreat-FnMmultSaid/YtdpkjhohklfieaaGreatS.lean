/- doubtful: whether nothing is said of a value, or of one in it. -/
import Derived.Test.YtdpkjhohklfieaaGreatR
set_option linter.unusedSimpArgs false
set_option linter.unusedVariables false
namespace Go.Proofs.YtdpkjhohklfieaaGreat
open Go.RowKit
set_option maxRecDepth 100000

theorem Owns.src {w : World} {base : Nat} {e : TypeId} {size : Nat} {v : Value} {cs : List (List Value)} (h : Owns w base e size v cs) :
    ∃ A cap, v = .slice A cs.length cap ∧ Src w w.heap.size A size cs := by
  by_cases hn : cs = []
  · subst hn
    rcases h.1.2 with ⟨rfl, _⟩ | ⟨g, cap, cur, rfl, _⟩
    · exact ⟨none, 0, rfl, .inl rfl⟩
    · exact ⟨_, cap, rfl, .inl rfl⟩
  · obtain ⟨g, cap, rfl, _, hlt, _, _, hr⟩ := h.row hn
    exact ⟨_, cap, rfl, .inr ⟨g, 0, rfl, hlt, hr⟩⟩

/-- Whether a value of which nothing is said is among these. -/
def doubt (xs : List Fv) : Bool := xs.any fun x => x.k == 6

theorem doubt_take (xs : List Fv) (k : Nat) (x : Fv) (h : xs[k]? = some x) (h6 : x.k ≠ 6) (hd : doubt (xs.take k) = false) : doubt (xs.take (k + 1)) = false := by
  unfold doubt at *
  rw [List.take_add_one, h, List.any_append, hd]
  simpa using h6

theorem doubt_mem (xs : List Fv) (k : Nat) (x : Fv) (h : xs[k]? = some x) (h6 : x.k = 6) : doubt xs = true := by
  unfold doubt
  rw [List.any_eq_true]
  exact ⟨x, List.mem_of_getElem? h, by simp [h6]⟩

theorem row_one (w : World) (t : TypeId) (c : Array Value) : Row (w.alloc (.cells c t)) w.heap.size 0 c.size [c.toList] := by
  intro i d hi
  match i, hi with
  | 0, hi =>
    simp at hi; subst hi
    refine ⟨by simp, fun j v hj => ?_⟩
    rw [Nat.zero_mul, Nat.zero_add, (Blk.new w t c).cell j]
    simpa using hj
  | i + 1, hi => simp at hi

set_option maxHeartbeats 2000000 in
theorem doubtful_any (d B : Nat) (k n dd : Int) (s : ByteArray) (A : Option Addr) (m cap : Nat) (xs : List Fv) (w : World)
    (hl : Leads d w B [.int .i64 k, .int .i64 n, .int .i64 dd, .string s, .slice A m cap] xs) (hB : B ≤ w.heap.size) (htot : xs.length ≤ 100000) :
    Calls Tryz.prog 11 #[(.agg #[.int .i64 k, .int .i64 n, .int .i64 dd, .string s, .slice A m cap])] w fun e w' => e = .returned (.bool (doubt xs)) ∧ Below w.heap.size w w' := by
  have HL := Lib.hid hl
  clear hl
  go_enter Tryz.func11, Tryz.ntmps11
  go_wp2_with fail
  obtain ⟨W, hW⟩ : ∃ W, W = (w.alloc (.cells #[.int .i64 k, .int .i64 n, .int .i64 dd, .string s, .slice A m cap] 27)) := ⟨_, rfl⟩
  have hsW : W.heap.size = w.heap.size + 1 := by rw [hW]; simp
  have hbW : Below w.heap.size w W := by rw [hW]; exact (Below.refl _ _).alloc (Nat.le_refl _) _
  have hb2 : Below w.heap.size w (W.alloc (.cells #[.int .i64 k, .int .i64 n, .int .i64 dd, .string s, .slice A m cap] 27)) := hbW.alloc (by omega) _
  have hsrc : Src (W.alloc (.cells #[.int .i64 k, .int .i64 n, .int .i64 dd, .string s, .slice A m cap] 27)) (w.heap.size + 2) (some ⟨w.heap.size + 1, 0, none⟩) 5 [[.int .i64 k, .int .i64 n, .int .i64 dd, .string s, .slice A m cap]] := by
    refine .inr ⟨_, _, rfl, by omega, ?_⟩
    have := row_one W 27 #[.int .i64 k, .int .i64 n, .int .i64 dd, .string s, .slice A m cap]
    rwa [hsW] at this
  have hf := flat_any d (w.heap.size + 2) (some ⟨w.heap.size + 1, 0, none⟩) 1 [([.int .i64 k, .int .i64 n, .int .i64 dd, .string s, .slice A m cap], xs)] _ (by simp) hsrc (by simp; omega)
    (by intro e he; simp at he; subst he; exact (HL.out.below hb2 hB).more (by omega)) (by simpa [leaves] using htot)
  rw [hW] at hf
  have hb3 := hb2
  rw [hW] at hb3
  clear hsrc hb2 hbW hsW hW
  clear W
  refine hf.mono ?_
  rintro e w1 ⟨v, rfl, hown, hb1⟩
  clear hf
  have hxs : leaves [([.int .i64 k, .int .i64 n, .int .i64 dd, .string s, .slice A m cap], xs)] = xs := by simp [leaves]
  rw [hxs] at hown
  clear hxs
  obtain ⟨A', cap', rfl, hsrc⟩ := hown.src
  have hlen : (fvs xs).length = xs.length := by simp [fvs]
  rw [hlen]
  obtain ⟨p, hp⟩ : ∃ p, p = xs.length := ⟨_, rfl⟩
  rw [← hp]
  rw [← hp] at htot
  have hbw : Below w.heap.size w w1 := hb3.trans (hb1.mono (by simp; omega))
  have HP := Lib.hid hp
  clear hp hown hlen hb1 hb3
  rcases hsrc with hnil | ⟨b, off, rfl, hlt, hrow⟩
  · have hx0 : xs = [] := by simpa [fvs] using hnil
    subst hx0
    have hp0 : p = 0 := HP.out
    subst hp0
    go_wp2_with fail
    refine wp_loop_rounds 1 ?_
    rw [rounds_succ]
    go_wp2
    go_ret
    exact ⟨rfl, hbw⟩
  · go_wp2_with fail
    go_loop [4] (fun i => ∃ q : Nat, q ≤ p ∧ i = .int .i64 q ∧ doubt (xs.take q) = false) (fun i => p - (intOf i).toNat)
    case atStart => exact ⟨0, Nat.zero_le _, rfl, rfl⟩
    case round =>
      obtain ⟨q, hq, rfl, hdq⟩ := hrel
      have HD := Lib.hid hdq
      clear hdq
      by_cases hqp : q < p
      · have hql : q < xs.length := by rw [← HP.out]; exact hqp
        obtain ⟨x, hx⟩ : ∃ x, xs[q]? = some x := ⟨_, List.getElem?_eq_getElem hql⟩
        have hR := hrow q x.cells (by simp [fvs, hx])
        have c0 : w1.cell? ⟨b, off + q * 5, none⟩ = some (.int .i64 x.k) := hR.2 0 _ rfl
        have HX := Lib.hid hx
        have HR := Lib.hid hrow
        clear hx hrow hR
        by_cases h6 : x.k = 6
        · have h6' : (x.k == 6) = true := by rw [h6]; rfl
          have hfin := doubt_mem xs q x HX.out h6
          have HF := Lib.hid hfin
          clear h6 hfin
          go_wp2
          go_ret
          exact ⟨by rw [HF.out]; rfl, hbw⟩
        · have h6' : (x.k == 6) = false := by rw [beq_eq_false_iff_ne]; exact h6
          have hfin := doubt_take xs q x HX.out h6 HD.out
          have HF := Lib.hid hfin
          clear h6 hfin
          go_wp2
          go_round
          case rel => exact ⟨q + 1, by omega, by go_num, HF.out⟩
          case measure => simp [intOf]; omega
      · have hqe : q = p := by omega
        subst hqe
        go_wp2
        go_ret
        refine ⟨?_, hbw⟩
        have := HD.out
        rw [List.take_of_length_le (by rw [HP.out]; exact Nat.le_refl _)] at this
        rw [this]; rfl

end Go.Proofs.YtdpkjhohklfieaaGreat
