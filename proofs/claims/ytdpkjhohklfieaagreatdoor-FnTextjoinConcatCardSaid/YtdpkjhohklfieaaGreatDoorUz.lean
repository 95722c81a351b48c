/- The law FnTextjoinConcat. -/
import Derived.Test.YtdpkjhohklfieaaGreatDoorUy
import Derived.Deep.RegionHeld3
set_option linter.unusedSimpArgs false
set_option linter.unusedVariables false
namespace Go.Proofs.YtdpkjhohklfieaaGreatDoor
open Go.RowKit
set_option maxRecDepth 100000
set_option maxHeartbeats 1000000

set_option maxHeartbeats 8000000 in
theorem law_TextjoinConcat (A : Option Addr) (c : Nat) (L : List ByteArray) (w : World) (h : StrsIn w A c L) :
    Calls Tryz.prog 4 #[.slice A L.length c] w fun e w' => e = .returned (.bool true) ∧ Below w.heap.size w w' := by
  have HZ := Lib.hid (zz6_any A c L w h)
  obtain ⟨n, hnl⟩ : ∃ n, n = L.length := ⟨_, rfl⟩
  rw [← hnl] at HZ ⊢
  have HL := Lib.hid (And.intro h hnl)
  clear h hnl
  go_enter Tryz.func4, Tryz.ntmps4
  go_wp2_with fail
  (with_reducible refine (HZ.out).mono ?_)
  rintro e w1 ⟨⟨b, rfl, hb⟩, rfl⟩
  cases b
  · go_wp2
    go_ret
    exact ⟨rfl, Below.refl _ _⟩
  · have hbig := hb rfl
    clear hb HZ
    by_cases h0 : n = 0
    · subst h0
      go_wp2
      go_ret
      exact ⟨rfl, Below.refl _ _⟩
    · by_cases h20 : 20 < n
      · go_wp2
        go_ret
        exact ⟨rfl, Below.refl _ _⟩
      · have hne : ((n : Int) == 0) = false := by rw [beq_eq_false_iff_ne]; omega
        have hle : ¬ ((20 : Int) < (n : Int)) := by omega
        go_wp2_with fail
        go_loopw [3] (fun i wr => ∃ k : Nat, k ≤ n ∧ i = .int .i64 k ∧ wr = w ∧ ∀ j x, L[j]? = some x → j < k → x.size ≤ 100 ∧ ∀ c ∈ x.data.toList, c.toNat < 128) (fun i _ => n - (intOf i).toNat)
        case atStart => exact ⟨0, Nat.zero_le _, rfl, rfl, fun j x _ hj => absurd hj (Nat.not_lt_zero _)⟩
        case round =>
          obtain ⟨k, hk, rfl, rfl, hall⟩ := hrel
          have HR := Lib.hid hall
          clear hall
          by_cases hlt : k < n
          · obtain ⟨x, hx⟩ : ∃ x, L[k]? = some x := ⟨_, List.getElem?_eq_getElem (by rw [← HL.out.2]; exact hlt)⟩
            rcases HL.out.1 with hnil | ⟨b, off, rfl, hb, hrow⟩
            · exfalso
              have : L = [] := List.map_eq_nil_iff.1 hnil
              subst this
              simp at hx
            have hR := hrow k [.string x] (by rw [List.getElem?_map, hx]; rfl)
            have c0 : wr.cell? ⟨b, off + k, none⟩ = some (.string x) := by simpa using hR.2 0 _ rfl
            have HX := Lib.hid hx
            clear hx hrow hR
            by_cases hs : 100 < x.size
            · go_wp2
              go_ret
              exact ⟨rfl, Below.refl _ _⟩
            · go_wp2_with fail
              (with_reducible refine (ascii_any x _ (by omega)).mono ?_)
              rintro e w2 ⟨rfl | ⟨rfl, hasc⟩, rfl⟩
              · go_wp2
                go_ret
                exact ⟨rfl, Below.refl _ _⟩
              · have HK := Lib.hid hasc
                clear hasc
                go_wp2_with fail
                go_roundw
                case rel =>
                  refine ⟨k + 1, by omega, by go_num, trivial, fun j z hz hj => ?_⟩
                  by_cases e : j = k
                  · subst e
                    rw [HX.out] at hz
                    injection hz with hz
                    subst hz
                    exact ⟨by omega, HK.out⟩
                  · exact HR.out j z hz (by omega)
                case measure => simp [intOf]; omega
          · have hkn : k = n := by omega
            have hs : ∀ x ∈ L, x.size ≤ 100 := fun x hx => by
              obtain ⟨j, hj, rfl⟩ := List.mem_iff_getElem.1 hx
              exact (HR.out j _ (List.getElem?_eq_getElem hj) (by rw [hkn, HL.out.2]; exact hj)).1
            have ha : ∀ x ∈ L, ∀ c ∈ x.data.toList, c.toNat < 128 := fun x hx => by
              obtain ⟨j, hj, rfl⟩ := List.mem_iff_getElem.1 hx
              exact (HR.out j _ (List.getElem?_eq_getElem hj) (by rw [hkn, HL.out.2]; exact hj)).2
            have hLne : L ≠ [] := fun he => h0 (by rw [HL.out.2, he]; rfl)
            have HF := Lib.hid (And.intro hLne (And.intro (show L.length ≤ 20 by have := HL.out.2; omega) (And.intro hs ha)))
            clear hs ha hLne HR
            go_wp2_with fail
            (with_reducible refine (str_any ⟨#[]⟩ _).mono ?_)
            rintro e w1 ⟨rfl, hb1⟩
            have HB1 := Lib.hid hb1
            clear hb1
            go_wp2_with fail
            (with_reducible refine (bool_true _).mono ?_)
            rintro e w2 ⟨rfl, hb2⟩
            have hb12 := HB1.out.trans (hb2.mono HB1.out.size)
            obtain ⟨w3, hw3⟩ : ∃ w3, w3 = w2.alloc (.cells #[.int .i64 2, .int .i64 0, .int .i64 0, .string ⟨#[]⟩, .slice none 0 0, .int .i64 3, .int .i64 1, .int .i64 0, .string ⟨#[]⟩, .slice none 0 0] 26) := ⟨_, rfl⟩
            have hy : Owns w3 w2.heap.size 26 5 (.slice (some ⟨w2.heap.size, 0, none⟩) 2 2) [(⟨2, 0, 0, ⟨#[]⟩⟩ : Fv).cells, (⟨3, 1, 0, ⟨#[]⟩⟩ : Fv).cells] := hw3 ▸ own_two w2 w2.heap.size (Nat.le_refl _) ⟨2, 0, 0, ⟨#[]⟩⟩ ⟨3, 1, 0, ⟨#[]⟩⟩
            have hb3 : Below wr.heap.size wr w3 := hw3 ▸ hb12.alloc hb12.size _
            have hs2 : wr.heap.size ≤ w2.heap.size := hb12.size
            have hs3 : w2.heap.size ≤ w3.heap.size := by rw [hw3, World.size_alloc]; omega
            have HA := Lib.hid (argTexts_any A c L w3 (HL.out.1.below hb3) (by have := HF.out.2.1; omega))
            rw [← HL.out.2] at HA
            have H3 := Lib.hid (And.intro hb3 (And.intro hy hs3))
            clear hb2 hb12 hy hb3 hs3
            go_wp2_with fail
            rw [← hw3]
            clear hw3
            (with_reducible refine (HA.out).mono ?_)
            rintro e w4 ⟨v4, rfl, hown4, hb4⟩
            clear HA
            have hy4 := H3.out.2.1.below hb4
            have H4 := Lib.hid (And.intro (H3.out.1.trans (hb4.mono H3.out.1.size)) (And.intro hown4 hy4))
            have hs4 : w2.heap.size ≤ w4.heap.size := Nat.le_trans H3.out.2.2 hb4.size
            clear hown4 hy4 hb4
            go_wp2_with (at_builtin; refine wpList_append_owned w4 rfl (.tmp 39) (.tmp 41) 30 rfl w2.heap.size 26 _ 5 64 Tryz.underlying30 infoV rfl (by decide) _ _ (by rfl) (by exact H4.out.2.2) w3.heap.size v4 _ (by rfl) (by exact H4.out.2.1) (by intro c hc; obtain ⟨x, _, rfl⟩ := List.mem_map.1 hc; exact x.one) (by rw [List.length_map, txts_len]; have := HF.out.2.1; simp; omega) (by decide) hs4 ?_; intro v5 w5 hown5 hg5 hat5 hbe5)
            have hb5 := H4.out.1.trans (hbe5.mono hs2)
            obtain ⟨T, hT⟩ : ∃ T : ByteArray, T = ⟨(cat L).toArray⟩ := ⟨_, rfl⟩
            have HS := Lib.hid (said_TEXTJOIN v5 L w2.heap.size w5 hown5 HF.out.1 HF.out.2.1 HF.out.2.2.1 HF.out.2.2.2)
            rw [← hT] at HS
            have HC := Lib.hid fun (y : Value) (base : Nat) (W : World) (ho : Owns W base 26 5 y ((txts L).map Fv.cells)) => said_CONCAT y L base W ho HF.out.1 HF.out.2.1 HF.out.2.2.1
            rw [← hT] at HC
            have H5 := Lib.hid hb5
            clear hb5 hbe5 hat5 hg5 hown5 hT
            (with_reducible refine (HS.out).mono ?_)
            rintro e w6 ⟨rfl, hb6⟩
            have hbw6 := H5.out.trans (hb6.mono H5.out.size)
            have HA := Lib.hid (argTexts_any A c L w6 (HL.out.1.below hbw6) (by have := HF.out.2.1; omega))
            rw [← HL.out.2] at HA
            have H6 := Lib.hid hbw6
            clear hb6 hbw6 HS
            go_wp2_with fail
            (with_reducible refine (HA.out).mono ?_)
            rintro e w7 ⟨v7, rfl, hown7, hb7⟩
            have HQ := Lib.hid (HC.out v7 _ w7 hown7)
            have H7 := Lib.hid (H6.out.trans (hb7.mono H6.out.size))
            clear hown7 hb7 HA HC
            go_wp2_with fail
            (with_reducible refine (HQ.out).mono ?_)
            rintro e w8 ⟨rfl, hb8⟩
            have H8 := Lib.hid (H7.out.trans (hb8.mono H7.out.size))
            clear hb8 HQ
            go_wp2_with fail
            (with_reducible refine (same_val T _).mono ?_)
            rintro e w9 ⟨rfl, hb9⟩
            have hb8 := (H8.out.alloc H8.out.size (.cells #[.int .i64 2, .int .i64 0, .int .i64 0, .string T, .slice none 0 0] 26)).alloc (Nat.le_trans H8.out.size (by rw [World.size_alloc]; exact Nat.le_succ _)) (.cells #[.int .i64 2, .int .i64 0, .int .i64 0, .string T, .slice none 0 0] 26)
            have H9 := Lib.hid (hb8.trans (hb9.mono hb8.size))
            clear hb8 hb9
            go_wp2
            go_ret
            exact ⟨rfl, H9.out⟩

end Go.Proofs.YtdpkjhohklfieaaGreatDoor
