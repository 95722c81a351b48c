/- OR: truths and whole numbers as arguments, what the reference says of them. -/
import Derived.Test.YtmlcaamgkgdgoaaGreatFn
import Derived.Test.YtmlcaamgkgdgoaaGreatFx
set_option linter.unusedSimpArgs false
set_option linter.unusedVariables false
namespace Go.Proofs.YtmlcaamgkgdgoaaGreat
open Go.RowKit
set_option maxRecDepth 100000
set_option maxHeartbeats 1000000

/-- A truth, a whole number, or a value of which nothing is said. -/
def Fv.Tr (x : Fv) : Prop := x.Ok ∧ x.s = ⟨#[]⟩ ∧ (x.k = 3 ∨ (x.k = 1 ∧ x.d = 1) ∨ x.k = 6)
def TrPost (n : Nat) (w : World) (e : Ending) (w' : World) : Prop := ∃ (v : Value) (L : List Fv), e = .returned v ∧ L.length = n ∧ (∀ x ∈ L, x.Tr) ∧ Owns w' w.heap.size 28 5 v (fvs L) ∧ (n = 0 → v = .slice none 0 0) ∧ Below w.heap.size w w'
def TrAt (w wr : World) (k : Nat) (v : Value) : Prop := ∃ L : List Fv, L.length = k ∧ (∀ x ∈ L, x.Tr) ∧ Owns wr w.heap.size 28 5 v (fvs L) ∧ (k = 0 → v = .slice none 0 0) ∧ Below w.heap.size w wr
theorem tr_snoc {L : List Fv} {x : Fv} (h : ∀ y ∈ L, y.Tr) (hx : x.Tr) : ∀ y ∈ L ++ [x], y.Tr := by
  intro y hy
  rcases List.mem_append.1 hy with hy | hy
  · exact h y hy
  · simp at hy; subst hy; exact hx
theorem Owns.later {w w' : World} {base : Nat} {e : TypeId} {size : Nat} {v : Value} {cs : List (List Value)} (h : Owns w base e size v cs) (hb : Below w.heap.size w w') : Owns w' base e size v cs :=
  ⟨h.1.kept (row := none) ⟨hb.os, hb.tape, hb.output, hb.size, fun i hi _ => hb.block i hi⟩ (by cases hv : Value.ownBlock v <;> simp), h.2⟩
theorem bool_tr (b : Bool) : (⟨3, if b then 1 else 0, 0, ⟨#[]⟩⟩ : Fv).Tr := ⟨.inr (.inr ⟨rfl, by cases b <;> simp⟩), rfl, .inl rfl⟩

set_option maxHeartbeats 2000000 in
theorem argTruths_any (A : Option Addr) (c : Nat) (l : List Bool) (w : World) (hsrc : Src w w.heap.size A 1 (l.map fun b => [.bool b])) (hlen : l.length ≤ 1000) :
    Calls Tryz.prog 18 #[.slice A l.length c] w (TrPost l.length w) := by
  obtain ⟨n, hn⟩ : ∃ n, n = l.length := ⟨_, rfl⟩
  rw [← hn]
  rw [← hn] at hlen
  have HN := Lib.hid hn
  clear hn
  go_enter Tryz.func18, Tryz.ntmps18
  go_wp2
  go_loopw [3, 4] (fun v i wr => ∃ (k : Nat) (y : Value), k ≤ n ∧ i = .int .i64 k ∧ y = v ∧ TrAt w wr k y) (fun _ i _ => n - (intOf i).toNat)
  case atStart => exact ⟨0, _, Nat.zero_le _, rfl, rfl, [], rfl, by simp, Owns.nil_ _ _ _ _, fun _ => rfl, Below.refl _ _⟩
  case round =>
    obtain ⟨k, y, hk, rfl, rfl, L, hLl, hLt, hown, hnil0, hbe⟩ := hrel
    have HL := Lib.hid (And.intro hLl hLt)
    have HN0 := Lib.hid hnil0
    clear hLl hLt hnil0
    by_cases hlt : k < n
    · obtain ⟨x, hx⟩ : ∃ x, l[k]? = some x := ⟨_, List.getElem?_eq_getElem (by rw [← HN.out]; exact hlt)⟩
      rcases hsrc with hnil | ⟨b, off, rfl, hb, hrow⟩
      · exfalso
        have : l = [] := by simpa using hnil
        subst this
        simp at hx
      have hR := (hrow.below hbe hb) k [.bool x] (by simp [hx])
      have c0 : wr.cell? ⟨b, off + k, none⟩ = some (.bool x) := by have := hR.2 0 _ rfl; rwa [Nat.mul_one, Nat.add_zero] at this
      have hsz := hbe.size
      clear hx hR hrow
      go_wp2_with fail
      refine (bool_any x _).mono ?_
      rintro e w1 ⟨rfl, hb1⟩
      have hz1 := hb1.size
      have hown1 := hown.later hb1
      have hlk : (fvs L).length ≤ 1000000 := by unfold fvs; rw [List.length_map, HL.out.1]; omega
      have hbw1 : Below w.heap.size w w1 := hbe.trans (hb1.mono hsz)
      clear hown hbe c0
      obtain ⟨nn, hnn⟩ : ∃ nn : Int, nn = if x then 1 else 0 := ⟨_, rfl⟩
      have HT : Hid ((⟨3, nn, 0, ⟨#[]⟩⟩ : Fv).Tr) := Lib.hid (by rw [hnn]; exact bool_tr x)
      rw [← hnn]
      clear hnn
      go_wp2_with (at_builtin; refine wpList_append_box w1 rfl (.tmp 11) (.tmp 17) 30 rfl w.heap.size 28 _ 5 64 Tryz.underlying30 infoV rfl (by decide) y (fvs L) (by rfl) (by exact hown1) #[.int .i64 3, .int .i64 nn, .int .i64 0, .string ⟨#[]⟩, .slice none 0 0] rfl 1 _ (by rfl) (by simp) (by exact Fv.one ⟨3, nn, 0, ⟨#[]⟩⟩) hlk (by decide) (by omega) ?_; intro v' w2 hown2 hg2 hat2 hbe2)
      have HB := Lib.hid (hbw1.trans hbe2)
      go_roundw
      case rel => first | exact ⟨k + 1, _, by omega, by go_num, rfl, L ++ [⟨3, nn, 0, ⟨#[]⟩⟩], by rw [List.length_append, HL.out.1]; rfl, tr_snoc HL.out.2 HT.out, by unfold fvs at hown2 ⊢; rw [List.map_append]; exact hown2, fun h => by omega, HB.out⟩ | exact ⟨k + 1, by omega, by go_num, L ++ [⟨3, nn, 0, ⟨#[]⟩⟩], by rw [List.length_append, HL.out.1]; rfl, tr_snoc HL.out.2 HT.out, by unfold fvs at hown2 ⊢; rw [List.map_append]; exact hown2, fun h => by omega, HB.out⟩
      case measure => simp [intOf]; omega
    · obtain rfl : k = n := by omega
      go_wp2
      go_ret
      exact ⟨_, L, rfl, HL.out.1, HL.out.2, hown, HN0.out, hbe⟩

set_option maxHeartbeats 2000000 in
theorem argWholes_any (A : Option Addr) (c : Nat) (l : List Int) (w : World) (hsrc : Src w w.heap.size A 1 (l.map fun b => [.int .i64 b])) (hlen : l.length ≤ 1000) :
    Calls Tryz.prog 19 #[.slice A l.length c] w (TrPost l.length w) := by
  obtain ⟨n, hn⟩ : ∃ n, n = l.length := ⟨_, rfl⟩
  rw [← hn]
  rw [← hn] at hlen
  have HN := Lib.hid hn
  clear hn
  go_enter Tryz.func19, Tryz.ntmps19
  go_wp2
  go_loopw [3, 4] (fun v i wr => ∃ (k : Nat) (y : Value), k ≤ n ∧ i = .int .i64 k ∧ y = v ∧ TrAt w wr k y) (fun _ i _ => n - (intOf i).toNat)
  case atStart => exact ⟨0, _, Nat.zero_le _, rfl, rfl, [], rfl, by simp, Owns.nil_ _ _ _ _, fun _ => rfl, Below.refl _ _⟩
  case round =>
    obtain ⟨k, y, hk, rfl, rfl, L, hLl, hLt, hown, hnil0, hbe⟩ := hrel
    have HL := Lib.hid (And.intro hLl hLt)
    have HN0 := Lib.hid hnil0
    clear hLl hLt hnil0
    by_cases hlt : k < n
    · obtain ⟨x, hx⟩ : ∃ x, l[k]? = some x := ⟨_, List.getElem?_eq_getElem (by rw [← HN.out]; exact hlt)⟩
      rcases hsrc with hnil | ⟨b, off, rfl, hb, hrow⟩
      · exfalso
        have : l = [] := by simpa using hnil
        subst this
        simp at hx
      have hR := (hrow.below hbe hb) k [.int .i64 x] (by simp [hx])
      have c0 : wr.cell? ⟨b, off + k, none⟩ = some (.int .i64 x) := by have := hR.2 0 _ rfl; rwa [Nat.mul_one, Nat.add_zero] at this
      have hsz := hbe.size
      have hcon : Hid (∀ W, Calls Tryz.prog 41 #[.int .i64 x] W fun e w' => ∃ z : Fv, z.Tr ∧ e = .returned (.agg #[.int .i64 z.k, .int .i64 z.n, .int .i64 z.d, .string z.s, .slice none 0 0]) ∧ Below W.heap.size W w') := by
        refine Lib.hid fun W => ?_
        by_cases hbig : 99999999999 < x ∨ x < -99999999999
        · exact (argWhole_big x W hbig).mono fun e w' h => ⟨⟨6, 0, 0, ⟨#[]⟩⟩, ⟨.inl (.inr (.inr (.inr rfl))), rfl, .inr (.inr rfl)⟩, h.1, h.2⟩
        · exact (argWhole_ok x W (by omega) (by omega)).mono fun e w' h => ⟨⟨1, x, 1, ⟨#[]⟩⟩, ⟨.inr (.inl ⟨rfl, by show (-99999999999 : Int) ≤ x; omega, by show x ≤ 99999999999; omega, by simp [dens]⟩), rfl, .inr (.inl ⟨rfl, rfl⟩)⟩, h.1, h.2⟩
      clear hx hR hrow
      go_wp2_with fail
      refine (hcon.out _).mono ?_
      rintro e w1 ⟨z, hz, rfl, hb1⟩
      have HT := Lib.hid hz
      have hz1 := hb1.size
      have hown1 := hown.later hb1
      have hlk : (fvs L).length ≤ 1000000 := by unfold fvs; rw [List.length_map, HL.out.1]; omega
      have hbw1 : Below w.heap.size w w1 := hbe.trans (hb1.mono hsz)
      clear hown hbe c0 hz
      go_wp2_with (at_builtin; refine wpList_append_box w1 rfl (.tmp 11) (.tmp 17) 30 rfl w.heap.size 28 _ 5 64 Tryz.underlying30 infoV rfl (by decide) y (fvs L) (by rfl) (by exact hown1) #[.int .i64 z.k, .int .i64 z.n, .int .i64 z.d, .string z.s, .slice none 0 0] rfl 1 _ (by rfl) (by simp) (by exact z.one) hlk (by decide) (by omega) ?_; intro v' w2 hown2 hg2 hat2 hbe2)
      have HB := Lib.hid (hbw1.trans hbe2)
      go_roundw
      case rel => first | exact ⟨k + 1, _, by omega, by go_num, rfl, L ++ [z], by rw [List.length_append, HL.out.1]; rfl, tr_snoc HL.out.2 HT.out, by unfold fvs at hown2 ⊢; rw [List.map_append]; exact hown2, fun h => by omega, HB.out⟩ | exact ⟨k + 1, by omega, by go_num, L ++ [z], by rw [List.length_append, HL.out.1]; rfl, tr_snoc HL.out.2 HT.out, by unfold fvs at hown2 ⊢; rw [List.map_append]; exact hown2, fun h => by omega, HB.out⟩
      case measure => simp [intOf]; omega
    · obtain rfl : k = n := by omega
      go_wp2
      go_ret
      exact ⟨_, L, rfl, HL.out.1, HL.out.2, hown, HN0.out, hbe⟩

set_option maxHeartbeats 1000000 in
theorem every_flat (fn NB b off c : Nat) (L : List Fv) (p : Fv → Bool) (w : World)
    (hcf : ∀ (args : Array Value) (W : World), Sem.run Tryz.prog (callFunc fn args) W = .ok (.enter fn args) W)
    (hrow : Row w b off 5 (fvs L)) (hb : b < w.heap.size) (hlen : L.length ≤ 1000)
    (hfn : ∀ W, Below w.heap.size w W → ∀ x ∈ L, Calls Tryz.prog fn #[(.agg #[.int .i64 x.k, .int .i64 x.n, .int .i64 x.d, .string x.s, .slice none 0 0]), .pointer (some ⟨NB, 0, none⟩)] W fun e w' => e = .returned (.bool (p x)) ∧ Below W.heap.size W w') :
    Calls Tryz.prog 165 #[.slice (some ⟨b, off, none⟩) L.length c, .func (.func fn) #[] #[.pointer (some ⟨NB, 0, none⟩)]] w fun e w' => e = .returned (.bool (L.all p)) ∧ Below w.heap.size w w' := by
  obtain ⟨n, hn⟩ : ∃ n, n = L.length := ⟨_, rfl⟩
  rw [← hn]
  rw [← hn] at hlen
  have HN := Lib.hid hn
  have HF := Lib.hid hfn
  clear hn hfn
  go_enter Tryz.func165, Tryz.ntmps165
  go_wp2
  go_loopw [5] (fun i wr => ∃ k : Nat, k ≤ n ∧ i = .int .i64 k ∧ Below w.heap.size w wr ∧ (L.take k).all p = true) (fun i _ => n - (intOf i).toNat)
  case atStart => exact ⟨0, Nat.zero_le _, rfl, Below.refl _ _, rfl⟩
  case round =>
    obtain ⟨k, hk, rfl, hbe, hall⟩ := hrel
    have HALL := Lib.hid hall
    clear hall
    by_cases hlt : k < n
    · obtain ⟨v, hx⟩ : ∃ v, L[k]? = some v := ⟨_, List.getElem?_eq_getElem (by rw [← HN.out]; exact hlt)⟩
      have hvm := List.mem_of_getElem? hx
      have hR := (hrow.below hbe hb) k v.cells (by simp [fvs, hx])
      have c0 : wr.cell? ⟨b, off + k * 5, none⟩ = some (.int .i64 v.k) := hR.2 0 _ rfl
      have c1 : wr.cell? ⟨b, off + k * 5 + 1, none⟩ = some (.int .i64 v.n) := hR.2 1 _ rfl
      have c2 : wr.cell? ⟨b, off + k * 5 + 2, none⟩ = some (.int .i64 v.d) := hR.2 2 _ rfl
      have c3 : wr.cell? ⟨b, off + k * 5 + 3, none⟩ = some (.string v.s) := hR.2 3 _ rfl
      have c4 : wr.cell? ⟨b, off + k * 5 + 4, none⟩ = some (.slice none 0 0) := hR.2 4 _ rfl
      have HR := Lib.hid hrow
      have hsz := hbe.size
      have HVM := Lib.hid (And.intro hvm hx)
      have HBE := Lib.hid hbe
      clear hx hR hrow hvm
      go_wp2_with fail
      refine (HF.out _ HBE.out v HVM.out.1).mono ?_
      rintro e w1 ⟨rfl, hb1⟩
      have hbw1 : Below w.heap.size w w1 := hbe.trans (hb1.mono hsz)
      clear hbe c0 c1 c2 c3 c4 hb1
      cases hpv : p v
      · have hfin : L.all p = false := by rw [List.all_eq_false]; exact ⟨v, HVM.out.1, by rw [hpv]; simp⟩
        have HFI := Lib.hid hfin
        clear hfin hpv
        go_wp2
        go_ret
        exact ⟨by rw [HFI.out]; rfl, hbw1⟩
      · have hfin : (L.take (k + 1)).all p = true := by rw [List.take_add_one, HVM.out.2, List.all_append, HALL.out]; simpa using hpv
        have HFI := Lib.hid hfin
        clear hfin hpv
        go_wp2_with fail
        go_roundw
        case rel => exact ⟨k + 1, by omega, by go_num, hbw1, HFI.out⟩
        case measure => simp [intOf]; omega
    · obtain rfl : k = n := by omega
      have hfin := HALL.out
      rw [List.take_of_length_le (by rw [HN.out]; exact Nat.le_refl _)] at hfin
      have HFI := Lib.hid hfin
      clear hfin
      go_wp2
      go_ret
      exact ⟨by rw [HFI.out]; rfl, hbe⟩

theorem orFit_yes (k n d : Int) (s : ByteArray) (NB : Nat) (w : World) (hk : k = 3 ∨ k = 1) :
    Calls Tryz.prog 178 #[(.agg #[.int .i64 k, .int .i64 n, .int .i64 d, .string s, .slice none 0 0]), .pointer (some ⟨NB, 0, none⟩)] w fun e w' => e = .returned (.bool true) ∧ Below w.heap.size w w' := by
  rcases hk with rfl | rfl
  · go_enter Tryz.func178, Tryz.ntmps178
    go_wp2
    go_ret
    exact ⟨rfl, (by (repeat' (first | with_reducible exact Below.refl _ _ | with_reducible refine Below.setCell ?_ ?_ _ | with_reducible refine Below.alloc ?_ ?_ _ | with_reducible refine Below.drew ?_ | with_reducible refine Below.trans ?_ (Below.mono (by assumption) ?_))); all_goals (first | omega | (simp [World.setCell]; done) | (simp [World.setCell]; omega)))⟩
  · go_enter Tryz.func178, Tryz.ntmps178
    go_wp2
    go_ret
    exact ⟨rfl, (by (repeat' (first | with_reducible exact Below.refl _ _ | with_reducible refine Below.setCell ?_ ?_ _ | with_reducible refine Below.alloc ?_ ?_ _ | with_reducible refine Below.drew ?_ | with_reducible refine Below.trans ?_ (Below.mono (by assumption) ?_))); all_goals (first | omega | (simp [World.setCell]; done) | (simp [World.setCell]; omega)))⟩

theorem kinds_none (n d : Int) (s : ByteArray) (A : Option Addr) (m c : Nat) (w : World) :
    Calls Tryz.prog 118 #[(.agg #[.int .i64 6, .int .i64 n, .int .i64 d, .string s, .slice none 0 0]), .slice A m c] w fun e w' => e = .returned (.bool false) ∧ Below w.heap.size w w' := by
  go_enter Tryz.func118, Tryz.ntmps118
  go_wp2
  go_ret
  exact ⟨rfl, (by (repeat' (first | with_reducible exact Below.refl _ _ | with_reducible refine Below.setCell ?_ ?_ _ | with_reducible refine Below.alloc ?_ ?_ _ | with_reducible refine Below.drew ?_ | with_reducible refine Below.trans ?_ (Below.mono (by assumption) ?_))); all_goals (first | omega | (simp [World.setCell]; done) | (simp [World.setCell]; omega)))⟩

theorem orFit_no (n d : Int) (s : ByteArray) (NB : Nat) (w : World) (hNB : NB < w.heap.size) (hn : w.cell? ⟨NB, 0, none⟩ = some (.string (⟨#[79, 82]⟩ : ByteArray))) :
    Calls Tryz.prog 178 #[(.agg #[.int .i64 6, .int .i64 n, .int .i64 d, .string s, .slice none 0 0]), .pointer (some ⟨NB, 0, none⟩)] w fun e w' => e = .returned (.bool false) ∧ Below w.heap.size w w' := by
  go_enter Tryz.func178, Tryz.ntmps178
  go_wp2_with fail
  refine (kinds_none _ _ _ _ _ _ _).mono ?_
  rintro e w1 ⟨rfl, hb1⟩
  have hbw : Below w.heap.size w w1 := (((Below.refl _ _).alloc (Nat.le_refl _) _).alloc (by simp) _).trans (hb1.mono (by simp; omega))
  go_wp2
  go_ret
  exact ⟨rfl, hbw⟩

theorem fits_OR (b off c : Nat) (L : List Fv) (w0 : World) (hrow : Row w0 b off 5 (fvs L)) (hb : b < w0.heap.size) (h0 : 0 < L.length) (h30 : L.length ≤ 30) (hT : ∀ x ∈ L, x.Tr) :
    Said 94 (⟨#[79, 82]⟩ : ByteArray) (some ⟨b, off, none⟩) L.length c (L.all fun x => x.k != 6) true w0 := by
  intro w hbw
  have hbA : Below w.heap.size w (w.alloc (.cells #[.string (⟨#[79, 82]⟩ : ByteArray)] 9)) := (Below.refl _ _).alloc (Nat.le_refl _) _
  have HE : Hid (Calls Tryz.prog 165 #[.slice (some ⟨b, off, none⟩) L.length c, .func (.func 178) #[] #[.pointer (some ⟨w.heap.size, 0, none⟩)]] (w.alloc (.cells #[.string (⟨#[79, 82]⟩ : ByteArray)] 9)) fun e w' => e = .returned (.bool (L.all fun x => x.k != 6)) ∧ Below (w.alloc (.cells #[.string (⟨#[79, 82]⟩ : ByteArray)] 9)).heap.size (w.alloc (.cells #[.string (⟨#[79, 82]⟩ : ByteArray)] 9)) w') := by
    refine Lib.hid (every_flat 178 w.heap.size b off c L _ _ (fun args W => by kernel_rfl) (hrow.below (hbw.trans (hbA.mono hbw.size)) hb) (Nat.lt_of_lt_of_le hb (Nat.le_trans hbw.size hbA.size)) (by omega) ?_)
    intro W hW x hx
    obtain ⟨_, _, hk | ⟨hk, _⟩ | hk⟩ := hT x hx
    · rw [show (x.k != 6) = true by rw [hk]; rfl]
      exact orFit_yes _ _ _ _ _ W (.inl hk)
    · rw [show (x.k != 6) = true by rw [hk]; rfl]
      exact orFit_yes _ _ _ _ _ W (.inr hk)
    · rw [show (x.k != 6) = false by rw [hk]; rfl, hk]
      refine orFit_no _ _ _ _ W (Nat.lt_of_lt_of_le (by simp) hW.size) ?_
      rw [hW.cell (p := ⟨w.heap.size, 0, none⟩) (by simp)]
      simp [go_sem]
  obtain ⟨n, hn⟩ : ∃ n, n = L.length := ⟨_, rfl⟩
  rw [← hn] at HE h0 h30
  rw [← hn]
  clear hrow hb hbw hT hn w0
  go_enter Tryz.func94, Tryz.ntmps94
  go_wp2_with fail
  refine HE.out.mono ?_
  rintro e w1 ⟨rfl, hb1⟩
  go_wp2
  go_ret2
  exact ⟨rfl, hbA.trans (hb1.mono (by simp))⟩

end Go.Proofs.YtmlcaamgkgdgoaaGreat
