/- Ascii, given, First, plainly: what IFERROR and IFNA ask of their arguments. -/
import Derived.Test.YtkkmfpjmnebjaaaGreatCs
set_option linter.unusedSimpArgs false
set_option linter.unusedVariables false
namespace Go.Proofs.YtkkmfpjmnebjaaaGreat
open Go.RowKit
set_option maxRecDepth 100000
set_option maxHeartbeats 1000000

def asciiB (s : ByteArray) : Bool := decide (∀ c ∈ nums s, 32 ≤ c ∧ c ≤ 126)
theorem ascii_stop {s : ByteArray} {k : Nat} {c : Int} (hk : (nums s)[k]? = some c) (h : c < 32 ∨ 126 < c) : asciiB s = false := by
  unfold asciiB
  rw [decide_eq_false]
  intro hall
  have := hall c (List.mem_of_getElem? hk)
  omega

theorem ascii_any (s : ByteArray) (w : World) (hs : s.size ≤ 1000) :
    Calls Tryz.prog 189 #[.string s] w fun e w' => e = .returned (.bool (asciiB s)) ∧ w = w' := by
  have hs' : s.size ≤ 9223372036854775807 := by omega
  go_enter Tryz.func189, Tryz.ntmps189
  go_wp2
  go_loop [3] (fun i => ∃ k : Nat, k ≤ s.size ∧ i = .int .i64 k ∧ ∀ c ∈ (nums s).take k, 32 ≤ c ∧ c ≤ 126) (fun i => s.size - (intOf i).toNat)
  case atStart => exact ⟨0, Nat.zero_le _, rfl, by simp⟩
  case round =>
    obtain ⟨k, hk, rfl, hall⟩ := hrel
    have HA := Lib.hid hall
    clear hall
    by_cases hlt : k < s.size
    · have hc0 : (0 : Int) ≤ ((s[k]).toNat : Int) := Int.natCast_nonneg _
      have hc1 : ((s[k]).toNat : Int) ≤ 255 := by have := (s[k]).toNat_lt; omega
      have hkn : (nums s)[k]? = some ((s[k]).toNat : Int) := by
        have : k < s.data.toList.length := by simpa using hlt
        simp only [nums, List.getElem?_map, List.getElem?_eq_getElem this, Option.map_some]
        rfl
      have HK := Lib.hid hkn
      clear hkn
      by_cases hq1 : ((s[k]).toNat : Int) < 32
      · have hfin := ascii_stop HK.out (.inl hq1)
        have HF := Lib.hid hfin
        clear hfin
        go_wp2
        go_ret
        exact ⟨by rw [HF.out]; rfl, rfl⟩
      · by_cases hq2 : 126 < ((s[k]).toNat : Int)
        · have hfin := ascii_stop HK.out (.inr hq2)
          have HF := Lib.hid hfin
          clear hfin
          go_wp2
          go_ret
          exact ⟨by rw [HF.out]; rfl, rfl⟩
        · have hnext : ∀ c ∈ (nums s).take (k + 1), 32 ≤ c ∧ c ≤ 126 := by
            intro c hc
            rw [List.take_add_one, HK.out] at hc
            rcases List.mem_append.1 hc with h | h
            · exact HA.out c h
            · simp at h; subst h; omega
          have HX := Lib.hid hnext
          clear hnext
          go_wp2
          go_round
          case rel => exact ⟨k + 1, by omega, by go_num, HX.out⟩
          case measure => simp [intOf]; omega
    · have hke : k = s.size := by omega
      subst hke
      have hfin : asciiB s = true := by
        unfold asciiB
        have := HA.out
        rw [List.take_of_length_le (by rw [nums_len]; exact Nat.le_refl _)] at this
        exact decide_eq_true this
      have HF := Lib.hid hfin
      clear hfin
      go_wp2
      go_ret
      exact ⟨by rw [HF.out]; rfl, rfl⟩

/-- A single value that is no error, and not empty. -/
def giv (x : Fv) : Bool := x.k == 1 || (x.k == 2 && asciiB x.s) || x.k == 3

theorem given_any (x : Fv) (w : World) (hx : x.Ok) (hs : x.k = 2 → x.s.size ≤ 1000) :
    Calls Tryz.prog 197 #[(.agg #[.int .i64 x.k, .int .i64 x.n, .int .i64 x.d, .string x.s, .slice none 0 0])] w fun e w' => e = .returned (.bool (giv x)) ∧ Below w.heap.size w w' := by
  obtain ⟨k, n, d, s⟩ := x
  have hk : k = 0 ∨ k = 1 ∨ k = 2 ∨ k = 3 ∨ k = 4 ∨ k = 6 := by
    have h := hx
    simp only [Fv.Ok] at h
    omega
  clear hx
  rcases hk with rfl | rfl | rfl | rfl | rfl | rfl
  · go_enter Tryz.func197, Tryz.ntmps197
    go_wp2
    go_ret
    exact ⟨rfl, (by (repeat' (first | with_reducible exact Below.refl _ _ | with_reducible refine Below.setCell ?_ ?_ _ | with_reducible refine Below.alloc ?_ ?_ _ | with_reducible refine Below.drew ?_ | with_reducible refine Below.trans ?_ (Below.mono (by assumption) ?_))); all_goals (first | omega | (simp [World.setCell]; done) | (simp [World.setCell]; omega)))⟩
  · go_enter Tryz.func197, Tryz.ntmps197
    go_wp2
    go_ret
    exact ⟨rfl, (by (repeat' (first | with_reducible exact Below.refl _ _ | with_reducible refine Below.setCell ?_ ?_ _ | with_reducible refine Below.alloc ?_ ?_ _ | with_reducible refine Below.drew ?_ | with_reducible refine Below.trans ?_ (Below.mono (by assumption) ?_))); all_goals (first | omega | (simp [World.setCell]; done) | (simp [World.setCell]; omega)))⟩
  · have hs' := hs rfl
    simp only at hs'
    clear hs
    cases ha : asciiB s
    · have hg : giv ⟨2, n, d, s⟩ = false := by simp [giv, ha]
      rw [hg]
      have HG := Lib.hid ha
      clear ha hg
      go_enter Tryz.func197, Tryz.ntmps197
      go_wp2_with fail
      refine (ascii_any s _ hs').mono ?_
      rw [HG.out]
      rintro e w1 ⟨rfl, rfl⟩
      go_wp2
      go_ret
      exact ⟨rfl, (by (repeat' (first | with_reducible exact Below.refl _ _ | with_reducible refine Below.setCell ?_ ?_ _ | with_reducible refine Below.alloc ?_ ?_ _ | with_reducible refine Below.drew ?_ | with_reducible refine Below.trans ?_ (Below.mono (by assumption) ?_))); all_goals (first | omega | (simp [World.setCell]; done) | (simp [World.setCell]; omega)))⟩
    · have hg : giv ⟨2, n, d, s⟩ = true := by simp [giv, ha]
      rw [hg]
      have HG := Lib.hid ha
      clear ha hg
      go_enter Tryz.func197, Tryz.ntmps197
      go_wp2_with fail
      refine (ascii_any s _ hs').mono ?_
      rw [HG.out]
      rintro e w1 ⟨rfl, rfl⟩
      go_wp2
      go_ret
      exact ⟨rfl, (by (repeat' (first | with_reducible exact Below.refl _ _ | with_reducible refine Below.setCell ?_ ?_ _ | with_reducible refine Below.alloc ?_ ?_ _ | with_reducible refine Below.drew ?_ | with_reducible refine Below.trans ?_ (Below.mono (by assumption) ?_))); all_goals (first | omega | (simp [World.setCell]; done) | (simp [World.setCell]; omega)))⟩
  · go_enter Tryz.func197, Tryz.ntmps197
    go_wp2
    go_ret
    exact ⟨rfl, (by (repeat' (first | with_reducible exact Below.refl _ _ | with_reducible refine Below.setCell ?_ ?_ _ | with_reducible refine Below.alloc ?_ ?_ _ | with_reducible refine Below.drew ?_ | with_reducible refine Below.trans ?_ (Below.mono (by assumption) ?_))); all_goals (first | omega | (simp [World.setCell]; done) | (simp [World.setCell]; omega)))⟩
  · go_enter Tryz.func197, Tryz.ntmps197
    go_wp2
    go_ret
    exact ⟨rfl, (by (repeat' (first | with_reducible exact Below.refl _ _ | with_reducible refine Below.setCell ?_ ?_ _ | with_reducible refine Below.alloc ?_ ?_ _ | with_reducible refine Below.drew ?_ | with_reducible refine Below.trans ?_ (Below.mono (by assumption) ?_))); all_goals (first | omega | (simp [World.setCell]; done) | (simp [World.setCell]; omega)))⟩
  · go_enter Tryz.func197, Tryz.ntmps197
    go_wp2
    go_ret
    exact ⟨rfl, (by (repeat' (first | with_reducible exact Below.refl _ _ | with_reducible refine Below.setCell ?_ ?_ _ | with_reducible refine Below.alloc ?_ ?_ _ | with_reducible refine Below.drew ?_ | with_reducible refine Below.trans ?_ (Below.mono (by assumption) ?_))); all_goals (first | omega | (simp [World.setCell]; done) | (simp [World.setCell]; omega)))⟩

theorem Src.more {w : World} {B B' : Nat} {A : Option Addr} {size : Nat} {cs : List (List Value)} (h : Src w B A size cs) (hB : B ≤ B') : Src w B' A size cs := by
  rcases h with h | ⟨b, off, h1, h2, h3⟩
  · exact .inl h
  · exact .inr ⟨b, off, h1, Nat.lt_of_lt_of_le h2 hB, h3⟩
def leafs (L : List Fv) : List (List Value × List Fv) := L.map fun x => (x.cells, [x])
theorem leafs_cells (L : List Fv) : (leafs L).map (·.1) = fvs L := by simp [leafs, fvs, List.map_map, Function.comp_def]
theorem leafs_leaves (L : List Fv) : leaves (leafs L) = L := by
  unfold leafs leaves
  induction L with
  | nil => rfl
  | cons x r ih => simp only [List.map_cons, List.flatten_cons]; rw [ih]; rfl

/-- First of single values of which none is an error, and none unsure: none. -/
theorem first_none (A : Option Addr) (cap : Nat) (L : List Fv) (w : World) (hsrc : Src w w.heap.size A 5 (fvs L)) (hlen : L.length ≤ 1000) (h : ∀ x ∈ L, x.k ≠ 4 ∧ x.k ≠ 5 ∧ x.k ≠ 6) :
    Calls Tryz.prog 240 #[.slice A L.length cap] w fun e w' => e = .returned (.tuple #[(.agg #[.int .i64 0, .int .i64 0, .int .i64 0, .string ⟨#[]⟩, .slice none 0 0]), .bool false]) ∧ Below w.heap.size w w' := by
  have z0 := Zero5.new w
  have hbA : Below w.heap.size w (w.alloc (.cells #[.int .i64 0, .int .i64 0, .int .i64 0, .string ⟨#[]⟩, .slice none 0 0] 27)) := (Below.refl _ _).alloc (Nat.le_refl _) _
  have hf := flat_any 1 w.heap.size A cap (leafs L) _ (by simpa [leafs] using hlen) (by rw [leafs_cells]; exact hsrc.below hbA (Nat.le_refl _)) hbA.size
    (by intro e he; obtain ⟨x, hx, rfl⟩ := List.mem_map.1 he; exact leads_leaf x (h x hx).2.1) (by rw [leafs_leaves]; omega)
  rw [leafs_leaves, show (leafs L).length = L.length by simp [leafs]] at hf
  obtain ⟨p, hp⟩ : ∃ p, p = L.length := ⟨_, rfl⟩
  rw [← hp] at hf hlen
  rw [← hp]
  have HF := Lib.hid hf
  have HP := Lib.hid hp
  have HH := Lib.hid h
  have ZB := Lib.hid (And.intro z0 hbA)
  clear hf hp h z0 hbA
  go_enter Tryz.func240, Tryz.ntmps240
  go_wp2_with fail
  refine HF.out.mono ?_
  rintro e w1 ⟨v, rfl, hown, hb1⟩
  obtain ⟨z0, hbA⟩ := ZB.out
  obtain ⟨q, q0, q1, q2, q3, q4, qf⟩ := z0.below hb1
  have hbw := hbA.trans (hb1.mono (by simp))
  obtain ⟨A', cap', rfl, hsrc'⟩ := hown.src
  rw [show (fvs L).length = p by rw [HP.out]; simp [fvs]]
  clear hown z0 hbA hb1 HF ZB hsrc
  rcases hsrc' with hnil | ⟨b, off, rfl, hlt, hrow⟩
  · have hx0 : L = [] := by simpa [fvs] using hnil
    subst hx0
    have hp0 : p = 0 := HP.out
    subst hp0
    go_wp2_with fail
    refine wp_loop_rounds 1 ?_
    rw [rounds_succ]
    go_wp2_with fail
    refine wp_loop_rounds 1 ?_
    rw [rounds_succ]
    go_wp2
    exact bodyPost_ret (v := (.tuple #[(.agg #[.int .i64 0, .int .i64 0, .int .i64 0, .string ⟨#[]⟩, .slice none 0 0]), .bool false])) (by simp [results, Tryz.results240, go_sem, q, q0, q1, q2, q3, q4, qf]) rfl ⟨rfl, (by (repeat' (first | with_reducible exact Below.refl _ _ | with_reducible refine Below.setCell ?_ ?_ _ | with_reducible refine Below.alloc ?_ ?_ _ | with_reducible refine Below.drew ?_ | with_reducible refine Below.trans ?_ (Below.mono (by assumption) ?_))); all_goals (first | omega | (simp [World.setCell]; done) | (simp [World.setCell]; omega)))⟩
  · go_wp2_with fail
    go_loop [4] (fun i => ∃ m : Nat, m ≤ p ∧ i = .int .i64 m) (fun i => p - (intOf i).toNat)
    case atStart => exact ⟨0, Nat.zero_le _, rfl⟩
    case round =>
      obtain ⟨m, hm, rfl⟩ := hrel
      by_cases hmp : m < p
      · have hml : m < L.length := by rw [← HP.out]; exact hmp
        obtain ⟨x, hx⟩ : ∃ x, L[m]? = some x := ⟨_, List.getElem?_eq_getElem hml⟩
        have hR := hrow m x.cells (by simp [fvs, hx])
        have c0 : w1.cell? ⟨b, off + m * 5, none⟩ = some (.int .i64 x.k) := hR.2 0 _ rfl
        have h6 : (x.k == 6) = false := by simpa using (HH.out x (List.mem_of_getElem? hx)).2.2
        have HR := Lib.hid hrow
        clear hx hrow hR
        go_wp2
        go_round
        case rel => exact ⟨m + 1, by omega, by go_num⟩
        case measure => simp [intOf]; omega
      · have hmq : m = p := by omega
        subst hmq
        go_wp2_with fail
        go_loop [5] (fun i => ∃ u : Nat, u ≤ m ∧ i = .int .i64 u) (fun i => m - (intOf i).toNat)
        case atStart => exact ⟨0, Nat.zero_le _, rfl⟩
        case round =>
          obtain ⟨u, hu, rfl⟩ := hrel
          by_cases hup : u < m
          · have hul : u < L.length := by rw [← HP.out]; exact hup
            obtain ⟨x, hx⟩ : ∃ x, L[u]? = some x := ⟨_, List.getElem?_eq_getElem hul⟩
            have hR := hrow u x.cells (by simp [fvs, hx])
            have c0 : w1.cell? ⟨b, off + u * 5, none⟩ = some (.int .i64 x.k) := hR.2 0 _ rfl
            have h4 : (x.k == 4) = false := by simpa using (HH.out x (List.mem_of_getElem? hx)).1
            have HR := Lib.hid hrow
            clear hx hrow hR
            go_wp2
            go_round
            case rel => exact ⟨u + 1, by omega, by go_num⟩
            case measure => simp [intOf]; omega
          · have huq : u = m := by omega
            subst huq
            go_wp2
            exact bodyPost_ret (v := (.tuple #[(.agg #[.int .i64 0, .int .i64 0, .int .i64 0, .string ⟨#[]⟩, .slice none 0 0]), .bool false])) (by simp [results, Tryz.results240, go_sem, q, q0, q1, q2, q3, q4, qf]) rfl ⟨rfl, (by (repeat' (first | with_reducible exact Below.refl _ _ | with_reducible refine Below.setCell ?_ ?_ _ | with_reducible refine Below.alloc ?_ ?_ _ | with_reducible refine Below.drew ?_ | with_reducible refine Below.trans ?_ (Below.mono (by assumption) ?_))); all_goals (first | omega | (simp [World.setCell]; done) | (simp [World.setCell]; omega)))⟩

/-- plainly of a value that is neither empty nor a matrix, beside values that do not disturb. -/
theorem plainly_any (x : Fv) (A : Option Addr) (cap : Nat) (L : List Fv) (w : World) (hsrc : Src w w.heap.size A 5 (fvs L)) (hlen : L.length ≤ 1000) (h : ∀ x ∈ L, x.k ≠ 4 ∧ x.k ≠ 5 ∧ x.k ≠ 6) (h0 : (x.k == 0) = false) (h5 : (x.k == 5) = false) :
    Calls Tryz.prog 252 #[(.agg #[.int .i64 x.k, .int .i64 x.n, .int .i64 x.d, .string x.s, .slice none 0 0]), .slice A L.length cap] w fun e w' => e = .returned (.agg #[.int .i64 x.k, .int .i64 x.n, .int .i64 x.d, .string x.s, .slice none 0 0]) ∧ Below w.heap.size w w' := by
  have hbA : Below w.heap.size w (w.alloc (.cells #[.int .i64 x.k, .int .i64 x.n, .int .i64 x.d, .string x.s, .slice none 0 0] 27)) := (Below.refl _ _).alloc (Nat.le_refl _) _
  have hbB : Below w.heap.size w ((w.alloc (.cells #[.int .i64 x.k, .int .i64 x.n, .int .i64 x.d, .string x.s, .slice none 0 0] 27)).alloc (.cells #[.int .i64 0, .int .i64 0, .int .i64 0, .string ⟨#[]⟩, .slice none 0 0] 27)) := hbA.alloc hbA.size _
  have z0 := Zero5.new (w.alloc (.cells #[.int .i64 x.k, .int .i64 x.n, .int .i64 x.d, .string x.s, .slice none 0 0] 27))
  have hf := first_none A cap L _ ((hsrc.below hbB (Nat.le_refl _)).more (by exact hbB.size)) hlen h
  have HF := Lib.hid hf
  clear hf
  go_enter Tryz.func252, Tryz.ntmps252
  go_wp2_with fail
  refine HF.out.mono ?_
  rintro e w1 ⟨rfl, hb1⟩
  obtain ⟨q, q0, q1, q2, q3, q4, qf⟩ := z0.below hb1
  obtain ⟨hc1, hf1, hz1⟩ := bcell hb1
  simp only [World.size_alloc] at hz1
  simp only [World.size_alloc] at q q0 q1 q2 q3 q4 qf
  have hwlt1 : w.heap.size < w1.heap.size := by omega
  have hpp : w.heap.size < w.heap.size + 1 + 1 := by omega
  go_wp2
  exact bodyPost_ret (v := (.agg #[.int .i64 x.k, .int .i64 x.n, .int .i64 x.d, .string x.s, .slice none 0 0])) (by simp [results, Tryz.results252, go_sem, q, q0, q1, q2, q3, q4, qf, hc1, hf1, hwlt1, hpp]) rfl ⟨rfl, (by (repeat' (first | with_reducible exact Below.refl _ _ | with_reducible refine Below.setCell ?_ ?_ _ | with_reducible refine Below.alloc ?_ ?_ _ | with_reducible refine Below.drew ?_ | with_reducible refine Below.trans ?_ (Below.mono (by assumption) ?_))); all_goals (first | omega | (simp [World.setCell]; done) | (simp [World.setCell]; omega)))⟩

end Go.Proofs.YtkkmfpjmnebjaaaGreat
