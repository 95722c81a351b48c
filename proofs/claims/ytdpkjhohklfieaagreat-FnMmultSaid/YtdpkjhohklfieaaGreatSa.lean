/- laws.same of matrices. -/
import Derived.Test.YtdpkjhohklfieaaGreatOu
import Derived.BigQuiet
import Derived.Deep.QuietTactic
set_option linter.unusedSimpArgs false
set_option linter.unusedVariables false
namespace Go.Proofs.YtdpkjhohklfieaaGreat
open Go.RowKit
set_option maxRecDepth 100000
set_option maxHeartbeats 1000000

/-- A value of the thin package is as the reference's. -/
def Agr (g : Gl) (x : Fv) : Prop := x.Ok ∧ g.k = x.k ∧ g.s = x.s ∧ (FloatKind.f64.format.order g.x x.of.x != some .eq) = false
def AgrRows (G : List (List Gl)) (X : List (List Fv)) : Prop := G.length = X.length ∧ ∀ (i : Nat) (rg : List Gl) (rx : List Fv), G[i]? = some rg → X[i]? = some rx → rg.length = rx.length ∧ ∀ (j : Nat) (g : Gl) (x : Fv), rg[j]? = some g → rx[j]? = some x → Agr g x
theorem same_agr {g : Gl} {x : Fv} (h : Agr g x) (w : World) : Calls Tryz.prog 12 #[(.agg #[.int .i64 g.k, .float .f64 g.x, .string g.s, .slice none 0 0]), (.agg #[.int .i64 x.k, .int .i64 x.n, .int .i64 x.d, .string x.s, .slice none 0 0])] w fun e w' => e = .returned (.bool true) ∧ Below w.heap.size w w' := by
  rw [h.2.2.1]
  exact same_flat g.k g.x x h.1 h.2.1 h.2.2.2 w

def SmAt (w W wr : World) : Prop := Below W.heap.size W wr

set_option maxHeartbeats 8000000 in
theorem same_mat (A A2 : Option Addr) (n n2 c c2 : Nat) (G : List (List Gl)) (X : List (List Fv)) (w : World) (hg : RowsIs 4 w (· < w.heap.size) A n (G.map gls)) (hx : RowsIs 5 w (· < w.heap.size) A2 n2 (X.map fvs)) (hl : n ≤ 1000) (hC : ∀ r ∈ X, r.length ≤ 1000 ∧ ∀ x ∈ r, x.Ok) (ha : AgrRows G X) :
    Calls Tryz.prog 12 #[(.agg #[.int .i64 5, .float .f64 0, .string ⟨#[]⟩, .slice A n c]), (.agg #[.int .i64 5, .int .i64 0, .int .i64 0, .string ⟨#[]⟩, .slice A2 n2 c2])] w fun e w' => e = .returned (.bool true) ∧ Below w.heap.size w w' := by
  have hn : n = G.length := by rw [hg.2.1]; exact List.length_map _
  have hn2 : n2 = X.length := by rw [hx.2.1]; exact List.length_map _
  obtain rfl : n2 = n := by rw [hn, hn2, ha.1]
  have hbA : Below w.heap.size w ((w.alloc (.cells #[.int .i64 5, .float .f64 0, .string ⟨#[]⟩, .slice A n2 c] 39)).alloc (.cells #[.int .i64 5, .int .i64 0, .int .i64 0, .string ⟨#[]⟩, .slice A2 n2 c2] 27)) := ((Below.refl _ _).alloc (Nat.le_refl _) _).alloc (by simp) _
  have HO := Lib.hid (of_mat A2 n2 c2 X _ ((hx.keep (Keep.below hbA fun _ hq => hq)).more fun q hq => Nat.lt_of_lt_of_le hq hbA.size) (by omega) hC)
  have t23 : ((w.alloc (.cells #[.int .i64 5, .float .f64 0, .string ⟨#[]⟩, .slice A n2 c] 39)).alloc (.cells #[.int .i64 5, .int .i64 0, .int .i64 0, .string ⟨#[]⟩, .slice A2 n2 c2] 27)).cell? ⟨w.heap.size, 3, none⟩ = some (.slice A n2 c) := (Blk.alloc (Blk.new w 39 _) _).cell 3
  have t34 : ((w.alloc (.cells #[.int .i64 5, .float .f64 0, .string ⟨#[]⟩, .slice A n2 c] 39)).alloc (.cells #[.int .i64 5, .int .i64 0, .int .i64 0, .string ⟨#[]⟩, .slice A2 n2 c2] 27)).cell? ⟨w.heap.size + 1, 4, none⟩ = some (.slice A2 n2 c2) := by
    simp [go_sem]
  have HG := Lib.hid (And.intro hg (And.intro hx (And.intro ha (And.intro hn hn2))))
  have HBA := Lib.hid hbA
  have HCC := Lib.hid hC
  have h00 : FloatKind.f64.format.order 0 0 = some .eq := by decide +kernel
  have HT := Lib.hid (And.intro t23 t34)
  clear hg hx hC hn hn2 hbA t23 t34 ha
  go_enter Tryz.func12, Tryz.ntmps12
  go_wp2_with fail
  refine HO.out.mono ?_
  rintro e w1 ⟨A3, c3, rfl, _, hb1⟩
  have hbw1 := HBA.out.trans (hb1.mono HBA.out.size)
  have hz1 := hb1.size
  simp only [World.size_alloc] at hz1
  have t20 : w1.cell? ⟨w.heap.size, 0, none⟩ = some (.int .i64 5) := (hb1.cell (p := ⟨w.heap.size, 0, none⟩) (by simp; omega)).trans ((Blk.alloc (Blk.new w 39 _) _).cell 0)
  have t21 : w1.cell? ⟨w.heap.size, 1, none⟩ = some (.float .f64 0) := (hb1.cell (p := ⟨w.heap.size, 1, none⟩) (by simp; omega)).trans ((Blk.alloc (Blk.new w 39 _) _).cell 1)
  have t22 : w1.cell? ⟨w.heap.size, 2, none⟩ = some (.string ⟨#[]⟩) := (hb1.cell (p := ⟨w.heap.size, 2, none⟩) (by simp; omega)).trans ((Blk.alloc (Blk.new w 39 _) _).cell 2)
  have t23 : w1.cell? ⟨w.heap.size, 3, none⟩ = some (.slice A n2 c) := (hb1.cell (p := ⟨w.heap.size, 3, none⟩) (by simp; omega)).trans HT.out.1
  have t34 : w1.cell? ⟨w.heap.size + 1, 4, none⟩ = some (.slice A2 n2 c2) := (hb1.cell (p := ⟨w.heap.size + 1, 4, none⟩) (by simp)).trans HT.out.2
  have hw1 : w.heap.size + 1 < w1.heap.size := by omega
  have hw0 : w.heap.size < w1.heap.size := by omega
  have HB1 := Lib.hid hbw1
  clear HO HT hb1 hbw1
  go_wp2_with fail
  go_loopw [6] (fun i wr => ∃ k : Nat, k ≤ n2 ∧ i = .int .i64 k ∧ Below w1.heap.size w1 wr) (fun i _ => n2 - (intOf i).toNat)
  case atStart => exact ⟨0, Nat.zero_le _, rfl, (Below.refl _ _).alloc (Nat.le_refl _) _⟩
  case round =>
    obtain ⟨k, hk, rfl, hbe⟩ := hrel
    have s23 := (hbe.cell (p := ⟨w.heap.size, 3, none⟩) hw0).trans t23
    have s34 := (hbe.cell (p := ⟨w.heap.size + 1, 4, none⟩) hw1).trans t34
    have hsz := hbe.size
    have s0 : w.heap.size < wr.heap.size := by omega
    have s1 : w.heap.size + 1 < wr.heap.size := by omega
    by_cases hlt : k < n2
    · obtain ⟨rg, hrg⟩ : ∃ rg, G[k]? = some rg := ⟨_, List.getElem?_eq_getElem (by rw [← HG.out.2.2.2.1]; exact hlt)⟩
      obtain ⟨rx, hrx⟩ : ∃ rx, X[k]? = some rx := ⟨_, List.getElem?_eq_getElem (by rw [← HG.out.2.2.2.2]; exact hlt)⟩
      have hbw := HB1.out.trans (hbe.mono HB1.out.size)
      obtain ⟨-, -, b, off, rfl, hb, hrow⟩ := HG.out.1
      obtain ⟨-, -, b2, off2, rfl, hb2, hrow2⟩ := HG.out.2.1
      obtain ⟨v1, h1, -, b3, off3, c4, rfl, hb3, hrow3⟩ := hrow k (gls rg) (by rw [List.getElem?_map, hrg]; rfl)
      obtain ⟨v2, h2, -, b5, off5, c5, rfl, hb5, hrow5⟩ := hrow2 k (fvs rx) (by rw [List.getElem?_map, hrx]; rfl)
      obtain ⟨hll, hag⟩ := HG.out.2.2.1.2 k rg rx hrg hrx
      obtain ⟨u, hu⟩ : ∃ u, u = rg.length := ⟨_, rfl⟩
      have hul : u ≤ 1000 := by rw [hu, hll]; exact (HCC.out rx (List.mem_of_getElem? hrx)).1
      rw [show (gls rg).length = u by rw [hu]; exact List.length_map _] at h1
      rw [show (fvs rx).length = u by rw [hu, hll]; exact List.length_map _] at h2
      have HR := Lib.hid (And.intro hu (And.intro (hll ▸ hu : u = rx.length) (And.intro hag (And.intro hrow3 hrow5))))
      have H12 := Lib.hid (And.intro h1 h2)
      have h1r := (hbw.cell (p := ⟨b, off + k, none⟩) hb).trans h1
      have h2r := (hbw.cell (p := ⟨b2, off2 + k, none⟩) hb2).trans h2
      have hb' : b < w.heap.size := hb
      have hb2' : b2 < w.heap.size := hb2
      have hb3' : b3 < w.heap.size := hb3
      have hb5' : b5 < w.heap.size := hb5
      have HBE := Lib.hid hbe
      clear hrow hrow2 hrow3 hrow5 hu hll hag hrg hrx h1 h2 hb hb2 hb3 hb5
      go_wp2_with fail
      go_quiet (fail)
      go_wp2_with fail
      clear s23 s34 h1r h2r
      go_loopw [7] (fun i wq => ∃ q : Nat, q ≤ u ∧ i = .int .i64 q ∧ Below w1.heap.size w1 wq) (fun i _ => u - (intOf i).toNat)
      case atStart => exact ⟨0, Nat.zero_le _, rfl, HBE.out.trans ⟨rfl, rfl, rfl, Nat.le_refl _, fun _ _ => rfl⟩⟩
      case round =>
        obtain ⟨q, hq, rfl, hbq⟩ := hrel
        have hbw2 := HB1.out.trans (hbq.mono HB1.out.size)
        have s23 := (hbq.cell (p := ⟨w.heap.size, 3, none⟩) hw0).trans t23
        have s34 := (hbq.cell (p := ⟨w.heap.size + 1, 4, none⟩) hw1).trans t34
        have h1r := (hbw2.cell (p := ⟨b, off + k, none⟩) hb').trans H12.out.1
        have h2r := (hbw2.cell (p := ⟨b2, off2 + k, none⟩) hb2').trans H12.out.2
        have hszq := hbq.size
        have r0 : w.heap.size < wr.heap.size := by omega
        have r1 : w.heap.size + 1 < wr.heap.size := by omega
        have r2 : b < wr.heap.size := by omega
        have r3 : b2 < wr.heap.size := by omega
        have r4 : b3 < wr.heap.size := by omega
        have r5 : b5 < wr.heap.size := by omega
        by_cases hqu : q < u
        · obtain ⟨g, hg⟩ : ∃ g, rg[q]? = some g := ⟨_, List.getElem?_eq_getElem (by rw [← HR.out.1]; exact hqu)⟩
          obtain ⟨x, hx⟩ : ∃ x, rx[q]? = some x := ⟨_, List.getElem?_eq_getElem (by rw [← HR.out.2.1]; exact hqu)⟩
          have hRg := (HR.out.2.2.2.1.below hbw2 hb3') q g.cells (by show (rg.map Gl.cells)[q]? = _; rw [List.getElem?_map, hg]; rfl)
          have hRx := (HR.out.2.2.2.2.below hbw2 hb5') q x.cells (by show (rx.map Fv.cells)[q]? = _; rw [List.getElem?_map, hx]; rfl)
          have c0 : wr.cell? ⟨b3, off3 + q * 4, none⟩ = some (.int .i64 g.k) := hRg.2 0 _ rfl
          have c1 : wr.cell? ⟨b3, off3 + q * 4 + 1, none⟩ = some (.float .f64 g.x) := hRg.2 1 _ rfl
          have c2 : wr.cell? ⟨b3, off3 + q * 4 + 2, none⟩ = some (.string g.s) := hRg.2 2 _ rfl
          have c3 : wr.cell? ⟨b3, off3 + q * 4 + 3, none⟩ = some (.slice none 0 0) := hRg.2 3 _ rfl
          have d0 : wr.cell? ⟨b5, off5 + q * 5, none⟩ = some (.int .i64 x.k) := hRx.2 0 _ rfl
          have d1 : wr.cell? ⟨b5, off5 + q * 5 + 1, none⟩ = some (.int .i64 x.n) := hRx.2 1 _ rfl
          have d2 : wr.cell? ⟨b5, off5 + q * 5 + 2, none⟩ = some (.int .i64 x.d) := hRx.2 2 _ rfl
          have d3 : wr.cell? ⟨b5, off5 + q * 5 + 3, none⟩ = some (.string x.s) := hRx.2 3 _ rfl
          have d4 : wr.cell? ⟨b5, off5 + q * 5 + 4, none⟩ = some (.slice none 0 0) := hRx.2 4 _ rfl
          have HAG := Lib.hid (HR.out.2.2.1 q g x hg hx)
          have HBQ := Lib.hid hbq
          clear hg hx hRg hRx hbw2
          go_wp2_with fail
          go_region_with (go_at_call 12; refine (same_agr HAG.out _).mono ?_; rintro e w5 ⟨rfl, hb5⟩)
          all_goals go_wp2_with fail
          all_goals (go_roundw; (case rel => exact ⟨q + 1, by omega, by go_num, HBQ.out.drew.trans (hb5.mono (by exact hszq))⟩); (case measure => simp [intOf]; omega))
        · obtain rfl : q = u := by omega
          go_wp2_with fail
          go_roundw
          case rel => exact ⟨k + 1, by omega, by go_num, hbq⟩
          case measure => simp [intOf]; omega
    · obtain rfl : k = n2 := by omega
      go_wp2
      go_ret
      exact ⟨rfl, HB1.out.trans (hbe.mono HB1.out.size)⟩

end Go.Proofs.YtdpkjhohklfieaaGreat
