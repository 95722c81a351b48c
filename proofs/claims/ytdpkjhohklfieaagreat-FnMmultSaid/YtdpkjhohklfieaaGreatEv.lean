/- every: over elements of which some may be matrices. -/
import Derived.Test.YtdpkjhohklfieaaGreatZ
import Derived.Test.YtdpkjhohklfieaaGreatU
set_option linter.unusedSimpArgs false
set_option linter.unusedVariables false
namespace Go.Proofs.YtdpkjhohklfieaaGreat
open Go.RowKit
set_option maxRecDepth 100000

/-- An element of a slice of values of the reference: a single value, or one with rows. -/
structure Ve where
  x : Fv
  A : Option Addr
  m : Nat
  c : Nat
def Ve.cells (v : Ve) : List Value := [.int .i64 v.x.k, .int .i64 v.x.n, .int .i64 v.x.d, .string v.x.s, .slice v.A v.m v.c]
/-- A text has no rows and is no longer than the statements speak of. -/
def Ve.Tame (v : Ve) : Prop := v.x.k = 2 → v.x.s.size ≤ 2147483647 ∧ v.A = none ∧ v.m = 0 ∧ v.c = 0

theorem numeric_any (v : Ve) (hv : v.Tame) (w : World) :
    Calls Tryz.prog 135 #[(.agg #[.int .i64 v.x.k, .int .i64 v.x.n, .int .i64 v.x.d, .string v.x.s, .slice v.A v.m v.c])] w (SomeBool w) := by
  obtain ⟨⟨k, n, d, s⟩, A, m, c⟩ := v
  show Calls Tryz.prog 135 #[(.agg #[.int .i64 k, .int .i64 n, .int .i64 d, .string s, .slice A m c])] w (SomeBool w)
  by_cases h2 : k = 2
  · obtain ⟨hs, hA, hm, hc⟩ := hv h2
    simp only at hs hA hm hc
    subst h2 hA hm hc
    exact numeric_text n d s w hs
  · by_cases h1 : k = 1
    · subst h1
      go_enter Tryz.func135, Tryz.ntmps135
      go_wp2
      go_ret
      exact ⟨_, rfl, (by (repeat' (first | with_reducible exact Below.refl _ _ | with_reducible refine Below.setCell ?_ ?_ _ | with_reducible refine Below.alloc ?_ ?_ _ | with_reducible refine Below.drew ?_ | with_reducible refine Below.trans ?_ (Below.mono (by assumption) ?_))); all_goals (first | omega | (simp [World.setCell]; done) | (simp [World.setCell]; omega)))⟩
    · by_cases h3 : k = 3
      · subst h3
        go_enter Tryz.func135, Tryz.ntmps135
        go_wp2
        go_ret
        exact ⟨_, rfl, (by (repeat' (first | with_reducible exact Below.refl _ _ | with_reducible refine Below.setCell ?_ ?_ _ | with_reducible refine Below.alloc ?_ ?_ _ | with_reducible refine Below.drew ?_ | with_reducible refine Below.trans ?_ (Below.mono (by assumption) ?_))); all_goals (first | omega | (simp [World.setCell]; done) | (simp [World.setCell]; omega)))⟩
      · refine (numeric_none k n d s A m c w (by simpa using h1) (by simpa using h2) (by simpa using h3)).mono ?_
        rintro e w1 ⟨rfl, hb⟩
        exact ⟨_, rfl, hb⟩

set_option maxHeartbeats 1000000 in
theorem every_some (fn : Nat) (b off c : Nat) (L : List Ve) (w : World)
    (hcf : ∀ (args : Array Value) (W : World), Sem.run Tryz.prog (callFunc fn args) W = .ok (.enter fn args) W)
    (hrow : Row w b off 5 (L.map Ve.cells)) (hb : b < w.heap.size) (hlen : L.length ≤ 1000)
    (hfn : ∀ W, ∀ v ∈ L, Calls Tryz.prog fn #[(.agg #[.int .i64 v.x.k, .int .i64 v.x.n, .int .i64 v.x.d, .string v.x.s, .slice v.A v.m v.c])] W (SomeBool W)) :
    Calls Tryz.prog 134 #[.slice (some ⟨b, off, none⟩) L.length c, .func (.func fn) #[] #[]] w (SomeBool w) := by
  obtain ⟨n, hn⟩ : ∃ n, n = L.length := ⟨_, rfl⟩
  rw [← hn]
  rw [← hn] at hlen
  have HN := Lib.hid hn
  have HF := Lib.hid hfn
  clear hn hfn
  go_enter Tryz.func134, Tryz.ntmps134
  go_wp2
  go_loopw [5] (fun i wr => ∃ k : Nat, k ≤ n ∧ i = .int .i64 k ∧ Below w.heap.size w wr) (fun i _ => n - (intOf i).toNat)
  case atStart => exact ⟨0, Nat.zero_le _, rfl, Below.refl _ _⟩
  case round =>
    obtain ⟨k, hk, rfl, hbe⟩ := hrel
    by_cases hlt : k < n
    · have hkl : k < L.length := by rw [← HN.out]; exact hlt
      obtain ⟨v, hx⟩ : ∃ v, L[k]? = some v := ⟨_, List.getElem?_eq_getElem hkl⟩
      have hvm := List.mem_of_getElem? hx
      have hR := (hrow.below hbe hb) k v.cells (by simp [hx])
      have c0 : wr.cell? ⟨b, off + k * 5, none⟩ = some (.int .i64 v.x.k) := hR.2 0 _ rfl
      have c1 : wr.cell? ⟨b, off + k * 5 + 1, none⟩ = some (.int .i64 v.x.n) := hR.2 1 _ rfl
      have c2 : wr.cell? ⟨b, off + k * 5 + 2, none⟩ = some (.int .i64 v.x.d) := hR.2 2 _ rfl
      have c3 : wr.cell? ⟨b, off + k * 5 + 3, none⟩ = some (.string v.x.s) := hR.2 3 _ rfl
      have c4 : wr.cell? ⟨b, off + k * 5 + 4, none⟩ = some (.slice v.A v.m v.c) := hR.2 4 _ rfl
      have HR := Lib.hid hrow
      have hsz := hbe.size
      have HVM := Lib.hid hvm
      clear hx hR hrow hvm
      go_wp2_with fail
      refine (HF.out _ v HVM.out).mono ?_
      rintro e w1 ⟨r, rfl, hb1⟩
      have hbw1 : Below w.heap.size w w1 := hbe.trans (hb1.mono hsz)
      clear hbe c0 c1 c2 c3 c4 hb1
      cases r
      · go_wp2
        go_ret
        exact ⟨_, rfl, hbw1⟩
      · go_wp2_with fail
        go_roundw
        case rel => exact ⟨k + 1, by omega, by go_num, hbw1⟩
        case measure => simp [intOf]; omega
    · have hkn : k = n := by omega
      subst hkn
      go_wp2
      go_ret
      exact ⟨_, rfl, hbe⟩

theorem every_none (fn c : Nat) (w : World) : Calls Tryz.prog 134 #[.slice none 0 c, .func (.func fn) #[] #[]] w (SomeBool w) := by
  go_enter Tryz.func134, Tryz.ntmps134
  go_wp2
  refine wp_loop_rounds 1 ?_
  rw [rounds_succ]
  go_wp2
  go_ret
  exact ⟨_, rfl, Below.refl _ _⟩

/-- The elements of what a function is called with. -/
def Args (w : World) (A : Option Addr) (L : List Ve) : Prop :=
  (∀ v ∈ L, v.Tame) ∧ L.length ≤ 1000 ∧ ((A = none ∧ L = []) ∨ ∃ b off, A = some ⟨b, off, none⟩ ∧ b < w.heap.size ∧ Row w b off 5 (L.map Ve.cells))

theorem Args.below {w w' : World} {A : Option Addr} {L : List Ve} (h : Args w A L) (hb : Below w.heap.size w w') : Args w' A L := by
  obtain ⟨h1, h2, h3 | ⟨b, off, rfl, hlt, hr⟩⟩ := h
  · exact ⟨h1, h2, .inl h3⟩
  · exact ⟨h1, h2, .inr ⟨b, off, rfl, Nat.lt_of_lt_of_le hlt hb.size, hr.below hb hlt⟩⟩

end Go.Proofs.YtdpkjhohklfieaaGreat
