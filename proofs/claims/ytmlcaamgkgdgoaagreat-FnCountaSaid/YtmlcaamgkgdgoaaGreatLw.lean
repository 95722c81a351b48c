/- laws.with: a table and up to ten single values. -/
import Derived.Test.YtmlcaamgkgdgoaaGreatLa
set_option linter.unusedSimpArgs false
set_option linter.unusedVariables false
namespace Go.Proofs.YtmlcaamgkgdgoaaGreat
open Go.RowKit
set_option maxRecDepth 100000
set_option maxHeartbeats 1000000

def sing (x : Fv) : Mv := ⟨x, []⟩
def WithPost (w : World) (e : Ending) (w' : World) : Prop :=
  ∃ (g cap : Nat) (G : List Ve) (rows : List (List Fv)) (L : List Fv), e = .returned (.slice (some ⟨g, 0, none⟩) (1 + L.length) cap) ∧ ArgsIn w' g 0 G (mat rows :: L.map sing) ∧ Rect rows ∧ L.length ≤ 10 ∧ (∀ x ∈ L, x.Cell) ∧ Below w.heap.size w w'

theorem many_one {w w2 : World} {A : Option Addr} {n c : Nat} {rows : List (List Fv)} (hb : Below w.heap.size w w2) (hr : RowsIs 5 w2 (New w.heap.size w2) A n (rows.map fvs)) :
    KV.Many (w2.alloc (.cells #[.int .i64 5, .int .i64 0, .int .i64 0, .string ⟨#[]⟩, .slice A n c] 28)) w.heap.size 28 5 (.slice (some ⟨w2.heap.size, 0, none⟩) 1 1) [⟨⟨5, 0, 0, ⟨#[]⟩⟩, A, n, c⟩] [mat rows] := by
  have hbA : Below w2.heap.size w2 (w2.alloc (.cells #[.int .i64 5, .int .i64 0, .int .i64 0, .string ⟨#[]⟩, .slice A n c] 28)) := (Below.refl _ _).alloc (Nat.le_refl _) _
  refine ⟨⟨⟨rfl, .inr ⟨w2.heap.size, 1, _, rfl, hb.size, heap_alloc_new w2 _, Nat.le_refl _, by decide, rfl, rfl⟩⟩, ?_⟩, Kind.all.one (K := KV) ⟨rfl, .inr ⟨rfl, ?_⟩⟩⟩
  · intro x hx; simp at hx; subst hx; rfl
  · refine (hr.keep (Keep.below hbA fun _ hq => hq.2)).more fun q hq => ⟨hq.1, Nat.lt_of_lt_of_le hq.2 hbA.size, .inr ?_⟩
    intro h
    have h : w2.heap.size = q := by injection h
    have := hq.2
    omega

theorem sing_is {w : World} {S : Nat → Prop} {x : Fv} (h : x.Ok) : KV.is w S ⟨x, none, 0, 0⟩ (sing x) := by
  refine ⟨rfl, .inl ⟨?_, rfl, rfl, rfl, rfl⟩⟩
  show x.k ≠ 5
  rcases h with (h | h | h | h) | ⟨h, _⟩ | ⟨h, _⟩ <;> rw [h] <;> decide
theorem sing_ok {x : Fv} (h : x.Cell) : (sing x).Ok := ⟨fun _ => h.1, by show ([] : List (List Fv)).length ≤ 1000; simp, by intro r hr; cases hr⟩

set_option maxHeartbeats 4000000 in
theorem with_any (A : Option Addr) (c : Nat) (X : List It) (cols : Int) (A2 : Option Addr) (c2 : Nat) (X2 : List It) (w : World) (hx : ItemsIn w A c X) (hs : ∀ x ∈ X, x.s.size ≤ 2147483647) (h1 : -9223372036854775808 ≤ cols) (h2 : cols ≤ 9223372036854775807)
    (hx2 : ItemsIn w A2 c2 X2) (hs2 : ∀ x ∈ X2, x.s.size ≤ 2147483647) :
    Calls Tryz.prog 16 #[.slice A X.length c, .int .i64 cols, .slice A2 X2.length c2] w (WithPost w) := by
  obtain ⟨hsrc, hlc, hcc, hok⟩ := hx
  obtain ⟨hsrc2, hlc2, hcc2, hok2⟩ := hx2
  obtain ⟨n2, hn2⟩ : ∃ n, n = X2.length := ⟨_, rfl⟩
  rw [← hn2] at hlc2 ⊢
  have HN := Lib.hid hn2
  have HT := Lib.hid (tableOf_any A c X cols w hsrc (by omega) hlc hcc (fun x hx => ⟨hok x hx, hs x hx⟩) h1 h2)
  have HO := Lib.hid (fun x (hx : x ∈ X2) => And.intro (hok2 x hx) (hs2 x hx))
  have HSRC := Lib.hid hsrc2
  clear hsrc hlc hcc hok hsrc2 hok2 hs hs2 h1 h2 hn2
  go_enter Tryz.func16, Tryz.ntmps16
  go_wp2_with fail
  refine HT.out.mono ?_
  rintro e w2 ⟨A', m, c', rows, rfl, hrs, hrect, hb2⟩
  have hmo := many_one (c := c') hb2 hrs
  have hbA : Below w.heap.size w (w2.alloc (.cells #[.int .i64 5, .int .i64 0, .int .i64 0, .string ⟨#[]⟩, .slice A' m c'] 28)) := hb2.alloc hb2.size _
  have HM := Lib.hid (And.intro hmo (And.intro hbA hrect))
  obtain ⟨W, hW⟩ : ∃ W, W = w2.alloc (.cells #[.int .i64 5, .int .i64 0, .int .i64 0, .string ⟨#[]⟩, .slice A' m c'] 28) := ⟨_, rfl⟩
  clear hmo hbA hrs hrect hb2 HT
  go_wp2_with fail
  rw [← hW] at HM ⊢
  clear hW
  go_loopw [7, 8] (fun v i wr => ∃ (k : Nat) (y : Value) (G : List Ve) (L : List Fv), k ≤ n2 ∧ k ≤ 10 ∧ i = .int .i64 k ∧ y = v ∧ Below w.heap.size w wr ∧ L.length = k ∧ (∀ x ∈ L, x.Cell) ∧ KV.Many wr w.heap.size 28 5 y G (mat rows :: L.map sing)) (fun _ i _ => 10 - (intOf i).toNat)
  case atStart => exact ⟨0, _, _, [], Nat.zero_le _, by omega, rfl, rfl, HM.out.2.1, rfl, by simp, HM.out.1⟩
  case round =>
    obtain ⟨k, y, G, L, hk, hk10, rfl, rfl, hbe, hL, hLc, hmany⟩ := hrel
    have HMM := Lib.hid (And.intro hmany (And.intro hL hLc))
    clear hmany hL hLc
    by_cases hlt : k < n2
    · by_cases h10 : k < 10
      · obtain ⟨x, hx⟩ : ∃ x, X2[k]? = some x := ⟨_, List.getElem?_eq_getElem (by rw [← HN.out]; exact hlt)⟩
        rcases HSRC.out with hnil | ⟨b, off, rfl, hb, hrow⟩
        · exfalso
          have : X2 = [] := by simpa using hnil
          subst this
          simp at hx
        have hR := (hrow.below hbe hb) k x.cells (by simp [hx])
        have c0 : wr.cell? ⟨b, off + k * 3, none⟩ = some (.int .i64 x.k) := hR.2 0 _ rfl
        have c1 : wr.cell? ⟨b, off + k * 3 + 1, none⟩ = some (.int .i64 x.n) := hR.2 1 _ rfl
        have c2 : wr.cell? ⟨b, off + k * 3 + 2, none⟩ = some (.string x.s) := hR.2 2 _ rfl
        have HXO := Lib.hid (HO.out x (List.mem_of_getElem? hx))
        have hsz := hbe.size
        clear hx hR hrow
        go_wp2_with fail
        refine (val_any _ _ _ _ HXO.out.1.1.1 HXO.out.1.1.2 HXO.out.1.2.1 HXO.out.1.2.2).mono ?_
        rintro e w1 ⟨v, hv, rfl, hb1⟩
        have HV := Lib.hid (hv.cell HXO.out.2)
        have hown1 : Owns w1 w.heap.size 28 5 y (G.map Ve.cells) := (HMM.out.1.below hb1).1
        have hlk : (G.map Ve.cells).length ≤ 1000000 := by rw [List.length_map, HMM.out.1.len]; simp; have := HMM.out.2.1; omega
        have hz1 := hb1.size
        have hku : KV.is w1 (New wr.heap.size w1) ⟨v, none, 0, 0⟩ (sing v) := sing_is HV.out.1
        have HKU := Lib.hid hku
        clear hv c0 c1 c2 hku
        go_wp2_with (at_builtin; refine wpList_append_box w1 rfl (.tmp 23) (.tmp 29) 30 rfl w.heap.size 28 _ 5 64 Tryz.underlying30 infoV rfl (by decide) y (G.map Ve.cells) (by rfl) (by exact hown1) #[.int .i64 v.k, .int .i64 v.n, .int .i64 v.d, .string v.s, .slice none 0 0] rfl 1 _ (by rfl) (by simp) (by exact v.one) hlk (by decide) (by omega) ?_; intro v' w2 hown2 hg2 hat2 hbe2)
        have hpush := HMM.out.1.push (g := ⟨v, none, 0, 0⟩) (m := sing v) hsz hb1 HKU.out hown2 hg2 (hat2.elim .inl fun h => .inr ⟨_, h, by simp⟩)
        have HP := Lib.hid hpush
        clear hpush
        go_roundw
        case rel => exact ⟨k + 1, _, G ++ [⟨v, none, 0, 0⟩], L ++ [v], by omega, by omega, by go_num, rfl, hbe.trans HP.out.2, by rw [List.length_append, HMM.out.2.1]; rfl, cell_snoc HMM.out.2.2 HV.out, by rw [List.map_append]; exact HP.out.1⟩
        case measure => simp [intOf]; omega
      · obtain ⟨g, cap, rfl, hg, hrow, hall⟩ := HMM.out.1.out (by simp)
        have HS := Lib.hid (And.intro hg (And.intro hrow hall))
        have hle : (mat rows :: L.map sing).length = 1 + L.length := by simp; omega
        rw [hle]
        clear hg hrow hall hle
        go_wp2_with fail
        go_wp2
        go_ret
        exact ⟨g, cap, G, rows, L, rfl, ⟨HS.out.1.2, HS.out.2.1, HS.out.2.2.more fun q hq => hq.2, by intro m hm; rcases List.mem_cons.1 hm with rfl | hm; exact HM.out.2.2.ok; obtain ⟨x, hx, rfl⟩ := List.mem_map.1 hm; exact sing_ok (HMM.out.2.2 x hx)⟩, HM.out.2.2, by rw [HMM.out.2.1]; exact hk10, HMM.out.2.2, hbe⟩
    · obtain ⟨g, cap, rfl, hg, hrow, hall⟩ := HMM.out.1.out (by simp)
      have HS := Lib.hid (And.intro hg (And.intro hrow hall))
      have hle : (mat rows :: L.map sing).length = 1 + L.length := by simp; omega
      rw [hle]
      clear hg hrow hall hle
      go_wp2_with fail
      go_wp2
      go_ret
      exact ⟨g, cap, G, rows, L, rfl, ⟨HS.out.1.2, HS.out.2.1, HS.out.2.2.more fun q hq => hq.2, by intro m hm; rcases List.mem_cons.1 hm with rfl | hm; exact HM.out.2.2.ok; obtain ⟨x, hx, rfl⟩ := List.mem_map.1 hm; exact sing_ok (HMM.out.2.2 x hx)⟩, HM.out.2.2, by rw [HMM.out.2.1]; exact hk10, HMM.out.2.2, hbe⟩

end Go.Proofs.YtmlcaamgkgdgoaaGreat
