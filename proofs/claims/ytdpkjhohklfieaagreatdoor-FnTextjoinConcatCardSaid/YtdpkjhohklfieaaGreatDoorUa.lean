/- What FnTextjoinConcat asks of its texts, and makes of them. -/
import Derived.Test.YtdpkjhohklfieaaGreatDoorTv
set_option linter.unusedSimpArgs false
set_option linter.unusedVariables false
namespace Go.Proofs.YtdpkjhohklfieaaGreatDoor
open Go.RowKit
set_option maxRecDepth 100000
set_option maxHeartbeats 1000000

def StrsIn (w : World) (A : Option Addr) (c : Nat) (L : List ByteArray) : Prop := Src w w.heap.size A 1 (L.map fun s => [.string s])
def txt (s : ByteArray) : Fv := ⟨2, 0, 0, s⟩
def txts (L : List ByteArray) : List Fv := L.map txt

theorem zz6_any (A : Option Addr) (c : Nat) (L : List ByteArray) (w : World) (h : StrsIn w A c L) :
    Calls Tryz.prog 11 #[.slice A L.length c] w fun e w' => (∃ b : Bool, e = .returned (.bool b) ∧ (b = true → L.length ≤ 2147483647)) ∧ w = w' := by
  obtain ⟨n, hnl⟩ : ∃ n, n = L.length := ⟨_, rfl⟩
  rw [← hnl]
  have HL := Lib.hid (And.intro h hnl)
  clear h hnl
  by_cases hbig : 2147483647 < n
  · go_enter Tryz.func11, Tryz.ntmps11
    go_wp2
    go_ret
    exact ⟨⟨false, rfl, fun hb => by cases hb⟩, rfl⟩
  · go_enter Tryz.func11, Tryz.ntmps11
    go_wp2_with fail
    go_loopw [10] (fun i wr => ∃ k : Nat, k ≤ n ∧ i = .int .i64 k ∧ wr = w) (fun i _ => n - (intOf i).toNat)
    case atStart => exact ⟨0, Nat.zero_le _, rfl, rfl⟩
    case round =>
      obtain ⟨k, hk, rfl, rfl⟩ := hrel
      by_cases hlt : k < n
      · obtain ⟨x, hx⟩ : ∃ x, L[k]? = some x := ⟨_, List.getElem?_eq_getElem (by rw [← HL.out.2]; exact hlt)⟩
        rcases HL.out.1 with hnil | ⟨b, off, rfl, hb, hrow⟩
        · exfalso
          have : L = [] := List.map_eq_nil_iff.1 hnil
          subst this
          simp at hx
        have hR := hrow k [.string x] (by rw [List.getElem?_map, hx]; rfl)
        have c0 : wr.cell? ⟨b, off + k, none⟩ = some (.string x) := by simpa using hR.2 0 _ rfl
        clear hx hrow hR
        by_cases hs : 2147483647 < x.size
        · go_wp2
          go_ret
          exact ⟨⟨false, rfl, fun hb => by cases hb⟩, rfl⟩
        · go_wp2_with fail
          go_roundw
          case rel => exact ⟨k + 1, by omega, by go_num, trivial⟩
          case measure => simp [intOf]; omega
      · go_wp2
        go_ret
        exact ⟨⟨true, rfl, fun _ => by omega⟩, rfl⟩

theorem txts_take (L : List ByteArray) (k : Nat) (x : ByteArray) (h : L[k]? = some x) : (txts (L.take (k + 1))).map Fv.cells = (txts (L.take k)).map Fv.cells ++ [[.int .i64 2, .int .i64 0, .int .i64 0, .string x, .slice none 0 0]] := by
  unfold txts
  rw [List.take_add_one, h, List.map_append, List.map_append]
  rfl
set_option maxHeartbeats 4000000 in
theorem argTexts_any (A : Option Addr) (c : Nat) (L : List ByteArray) (w : World) (h : StrsIn w A c L) (hn : L.length ≤ 1000) :
    Calls Tryz.prog 14 #[.slice A L.length c] w (MadePost 26 5 ((txts L).map Fv.cells) w) := by
  obtain ⟨n, hnl⟩ : ∃ n, n = L.length := ⟨_, rfl⟩
  rw [← hnl] at hn ⊢
  have HL := Lib.hid (And.intro h hnl)
  clear h hnl
  go_enter Tryz.func14, Tryz.ntmps14
  go_wp2_with fail
  go_loopw [3, 4] (fun v i wr => ∃ (k : Nat) (y : Value), k ≤ n ∧ i = .int .i64 k ∧ y = v ∧ Below w.heap.size w wr ∧ Owns wr w.heap.size 26 5 y ((txts (L.take k)).map Fv.cells)) (fun _ i _ => n - (intOf i).toNat)
  case atStart => exact ⟨0, _, Nat.zero_le _, rfl, rfl, Below.refl _ _, Owns.nil_ _ _ _ _⟩
  case round =>
    obtain ⟨k, y, hk, rfl, rfl, hbe, hown⟩ := hrel
    have HO := Lib.hid (And.intro hbe hown)
    have hsz := hbe.size
    clear hown
    by_cases hlt : k < n
    · obtain ⟨x, hx⟩ : ∃ x, L[k]? = some x := ⟨_, List.getElem?_eq_getElem (by rw [← HL.out.2]; exact hlt)⟩
      rcases HL.out.1 with hnil | ⟨b, off, rfl, hb, hrow⟩
      · exfalso
        have : L = [] := List.map_eq_nil_iff.1 hnil
        subst this
        simp at hx
      have hR := (hrow.below hbe hb) k [.string x] (by rw [List.getElem?_map, hx]; rfl)
      have c0 : wr.cell? ⟨b, off + k, none⟩ = some (.string x) := by simpa using hR.2 0 _ rfl
      have hlk : ((txts (L.take k)).map Fv.cells).length ≤ 1000000 := by unfold txts; rw [List.length_map, List.length_map, List.length_take]; omega
      have HXK := Lib.hid (txts_take L k x hx)
      clear hx hrow hR hbe
      go_wp2_with fail
      (with_reducible refine (str_any x _).mono ?_)
      rintro e w1 ⟨rfl, hb1⟩
      have hown1 := HO.out.2.below hb1
      have HB1 := Lib.hid (HO.out.1.trans (hb1.mono hsz))
      have hsz1 := hb1.size
      clear hb1 c0
      go_wp2_with (at_builtin; refine wpList_append_box w1 rfl (.tmp 11) (.tmp 17) 30 rfl w.heap.size 26 _ 5 64 Tryz.underlying30 infoV rfl (by decide) y ((txts (L.take k)).map Fv.cells) (by rfl) (by exact hown1) #[.int .i64 2, .int .i64 0, .int .i64 0, .string x, .slice none 0 0] rfl 1 _ (by rfl) (by simp) (by exact (txt x).one) hlk (by decide) (by omega) ?_; intro v' w2 hown2 hg2 hat2 hbe2)
      have HB := Lib.hid (And.intro (HB1.out.trans hbe2) hown2)
      clear hown2 hg2 hat2 hbe2
      go_roundw
      case rel => exact ⟨k + 1, _, by omega, by go_num, rfl, HB.out.1, by rw [HXK.out]; exact HB.out.2⟩
      case measure => simp [intOf]; omega
    · have hkn : k = n := by omega
      subst hkn
      go_wp2
      go_ret
      exact ⟨y, rfl, by have := HO.out.2; rw [List.take_of_length_le (by rw [← HL.out.2]; exact Nat.le_refl _)] at this; exact this, HO.out.1⟩

end Go.Proofs.YtdpkjhohklfieaaGreatDoor
