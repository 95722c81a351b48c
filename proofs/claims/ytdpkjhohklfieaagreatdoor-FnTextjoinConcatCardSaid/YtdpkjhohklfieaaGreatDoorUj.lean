/- TEXTJOIN in the package. -/
import Derived.Test.YtdpkjhohklfieaaGreatDoorUc
set_option linter.unusedSimpArgs false
set_option linter.unusedVariables false
namespace Go.Proofs.YtdpkjhohklfieaaGreatDoor
open Go.RowKit
set_option maxRecDepth 100000
set_option maxHeartbeats 1000000

theorem infoS : ((Tryz.prog.info? 9)).map (fun i => (i.zero, i.size, i.bytes)) = some (some (.string ⟨#[]⟩), 1, 16) := by kernel_rfl
/-- The texts that are not empty. -/
def kept (L : List ByteArray) : List ByteArray := L.filter fun x => x.size != 0
def strs (L : List ByteArray) : List (List Value) := L.map fun x => [.string x]
theorem kept_take0 (L : List ByteArray) (k : Nat) (x : ByteArray) (h : L[k]? = some x) (h0 : x.size = 0) : kept (L.take (k + 1)) = kept (L.take k) := by
  unfold kept
  rw [List.take_add_one, h, List.filter_append]
  simp [h0]
theorem kept_take1 (L : List ByteArray) (k : Nat) (x : ByteArray) (h : L[k]? = some x) (h0 : x.size ≠ 0) : strs (kept (L.take (k + 1))) = strs (kept (L.take k)) ++ [[.string x]] := by
  unfold kept strs
  rw [List.take_add_one, h, List.filter_append, List.map_append]
  simp [h0]
theorem kept_len (L : List ByteArray) : (kept L).length ≤ L.length := List.length_filter_le _ _

theorem Owns.putO {w : World} {base : Nat} {e : TypeId} {size : Nat} {v : Value} {cs : List (List Value)} (h : Owns w base e size v cs) {p : Addr} (hp : v.ownBlock = none ∨ v.ownBlock ≠ some p.block) (u : Value) : Owns (w.setCell p u) base e size v cs :=
  h.grown (row := some p.block) ⟨rfl, rfl, rfl, by simp [size_setCell], fun k _ hne => Below.heap_setCell w p u k (fun h => hne (by rw [h]))⟩ hp
theorem Owns.putT {w : World} {base : Nat} {e : TypeId} {size B : Nat} {v v0 v1 v2 v3 v4 v5 v6 v7 v8 v9 : Value} {cs : List (List Value)} (h : Owns w base e size v cs) (hp : v.ownBlock = none ∨ v.ownBlock ≠ some B) :
    Owns ((((((((((w.setCell ⟨B, 0, none⟩ v0).setCell ⟨B, 1, none⟩ v1).setCell ⟨B, 2, none⟩ v2).setCell ⟨B, 3, none⟩ v3).setCell ⟨B, 4, none⟩ v4).setCell ⟨B, 5, none⟩ v5).setCell ⟨B, 6, none⟩ v6).setCell ⟨B, 7, none⟩ v7).setCell ⟨B, 8, none⟩ v8).setCell ⟨B, 9, none⟩ v9) base e size v cs :=
  (((((((((h.putO (p := ⟨B, 0, none⟩) hp v0).putO (p := ⟨B, 1, none⟩) hp v1).putO (p := ⟨B, 2, none⟩) hp v2).putO (p := ⟨B, 3, none⟩) hp v3).putO (p := ⟨B, 4, none⟩) hp v4).putO (p := ⟨B, 5, none⟩) hp v5).putO (p := ⟨B, 6, none⟩) hp v6).putO (p := ⟨B, 7, none⟩) hp v7).putO (p := ⟨B, 8, none⟩) hp v8).putO (p := ⟨B, 9, none⟩) hp v9
theorem Blk.grownT {w w' : World} {k base size : Nat} {t e : TypeId} {cs c : Array Value} {v : Value} {xs : List (List Value)} (h : Blk w k t cs) (ho : Owns w base e size v xs) (hte : t ≠ e) (hg : (w.alloc (.cells c e)).grownBy w' v.ownBlock) : Blk w' k t cs := by
  refine (hg.block k (by have := Blk.lt h; simp; omega) ?_).trans (Blk.alloc h _)
  intro he
  rcases ho.1.2 with ⟨hv, _⟩ | ⟨g, cap, cur, hv, _, hh, _⟩
  · rw [hv] at he; cases he
  · rw [hv] at he
    injection he with he
    have he2 : k = g := he
    subst he2
    unfold Blk at h
    rw [h] at hh
    injection hh with hh
    injection hh with _ h2
    exact hte h2

/-- Blocks of cells that are no texts' stand as they stood. -/
def TK (w w' : World) : Prop := ∀ (k : Nat) (t : TypeId) (cs : Array Value), t ≠ 9 → Blk w k t cs → Blk w' k t cs
theorem TK.trans {a b c : World} (h : TK a b) (k : TK b c) : TK a c := fun i t cs ht hb => k i t cs ht (h i t cs ht hb)
theorem below_tk {w w' : World} (h : Below w.heap.size w w') : TK w w' := fun k t cs _ hb => hb.below h hb.lt
theorem tk_grown {w w' : World} {base size : Nat} {v : Value} {c : Array Value} {xs : List (List Value)} (ho : Owns w base 9 size v xs) (hg : (w.alloc (.cells c 9)).grownBy w' v.ownBlock) : TK w w' := fun k t cs ht hb => hb.grownT ho ht hg
theorem tk_set {w w' : World} {B : Nat} (h : TK w w') (hB : w.heap.size ≤ B) (v0 v1 v2 v3 v4 v5 v6 v7 v8 v9 : Value) :
    TK w ((((((((((w'.setCell ⟨B, 0, none⟩ v0).setCell ⟨B, 1, none⟩ v1).setCell ⟨B, 2, none⟩ v2).setCell ⟨B, 3, none⟩ v3).setCell ⟨B, 4, none⟩ v4).setCell ⟨B, 5, none⟩ v5).setCell ⟨B, 6, none⟩ v6).setCell ⟨B, 7, none⟩ v7).setCell ⟨B, 8, none⟩ v8).setCell ⟨B, 9, none⟩ v9) := by
  intro k t cs ht hb
  have hne : k ≠ B := by have := hb.lt; omega
  have h1 := h k t cs ht hb
  exact Blk.far (Blk.far (Blk.far (Blk.far (Blk.far (Blk.far (Blk.far (Blk.far (Blk.far (Blk.far h1 hne _) hne _) hne _) hne _) hne _) hne _) hne _) hne _) hne _) hne _

set_option maxHeartbeats 8000000 in
theorem textJoin_any (LB : Nat) (es : List Nat) (pre : List Value) (L : List ByteArray) (y0 : Value) (w0 w : World) (h : IsList w0 LB es (pre ++ faces (L.map txG))) (hp : pre.length = 2) (hn0 : 0 < L.length) (hn : L.length ≤ 20) (hb : Below w0.heap.size w0 w) (hy : Owns w w0.heap.size 9 1 y0 []) :
    Calls Tryz.prog 45 #[elemPtr es 2, y0, .bool true] w fun e w' => ∃ y', e = .returned (.tuple #[y', (.agg #[.string ⟨#[]⟩, .float .f64 (bb true), .string ⟨#[]⟩, .slice none 0 0, .slice none 0 0, .bool true, .string ⟨#[]⟩, .int .u8 1, .pointer none, .pointer none])]) ∧ Owns w' w0.heap.size 9 1 y' (strs (kept L)) ∧ Below w0.heap.size w0 w' ∧ TK w w' := by
  obtain ⟨n, hnl⟩ : ∃ n, n = L.length := ⟨_, rfl⟩
  have hel : es.length = 2 + n := by rw [h.len, List.length_append, hp]; unfold faces; rw [List.length_map, List.length_map, hnl]
  rw [← hnl] at hn hn0
  obtain ⟨b2, hb2⟩ : ∃ b, es[2]? = some b := ⟨_, List.getElem?_eq_getElem (by omega)⟩
  have hl0 := h.below hb
  have hsz0 := hb.size
  obtain ⟨wZ, hwZ⟩ : ∃ wZ, wZ = w.alloc (.cells #[.string ⟨#[]⟩, .float .f64 0, .string ⟨#[]⟩, .slice none 0 0, .slice none 0 0, .bool false, .string ⟨#[]⟩, .int .u8 0, .pointer none, .pointer none] 58) := ⟨_, rfl⟩
  have hbZ : Below w0.heap.size w0 wZ := hwZ ▸ hb.alloc hsz0 _
  have hzz : wZ.heap.size = w.heap.size + 1 := by rw [hwZ]; simp
  have hyZ : Owns wZ w0.heap.size 9 1 y0 [] := hwZ ▸ hy.below ((Below.refl _ _).alloc (Nat.le_refl _) _)
  have htkZ : TK w wZ := hwZ ▸ below_tk ((Below.refl _ _).alloc (Nat.le_refl _) _)
  have HTZ := Lib.hid htkZ
  clear htkZ
  have hkZ : Blk wZ w.heap.size 58 #[.string ⟨#[]⟩, .float .f64 0, .string ⟨#[]⟩, .slice none 0 0, .slice none 0 0, .bool false, .string ⟨#[]⟩, .int .u8 0, .pointer none, .pointer none] := hwZ ▸ Blk.new _ _ _
  have HN := Lib.hid (And.intro hnl (And.intro hel (And.intro hp hb2)))
  have HA := Lib.hid (And.intro hbZ (And.intro h (And.intro hyZ hkZ)))
  rw [elemPtr_some hb2]
  clear h hp hnl hel hl0 hbZ hyZ hb hy hkZ hb2
  go_enter Tryz.func45, Tryz.ntmps45
  go_wp2_with fail
  rw [← hwZ]
  clear hwZ
  refine (next_any LB es _ 2 b2 _ (HA.out.2.1.below HA.out.1) HN.out.2.2.2).mono ?_
  rintro e v1 ⟨rfl, rfl⟩
  go_wp2_with fail
  go_loopg [0, 1] n (fun gf pv av wr => ∃ (k : Nat) (y : Value), k + gf = n ∧ pv = elemPtr es (2 + k) ∧ y = av ∧ Below w0.heap.size w0 wr ∧ TK wZ wr ∧ Owns wr w0.heap.size 9 1 y (strs (kept (L.take k))))
  case atStart => exact ⟨0, _, by omega, (elemPtr_some HN.out.2.2.2).symm, rfl, HA.out.1, (fun _ _ _ _ h => h), HA.out.2.2.1⟩
  case round =>
    obtain ⟨k, y, hk, rfl, rfl, hbe, hbz, hown⟩ := hrel
    have hsz := hbe.size
    by_cases hlt : k < n
    · obtain ⟨g', rfl⟩ : ∃ g', gk = g' + 1 := ⟨gk - 1, by omega⟩
      obtain ⟨x, hx⟩ : ∃ x, L[k]? = some x := ⟨_, List.getElem?_eq_getElem (by rw [← HN.out.1]; exact hlt)⟩
      obtain ⟨b, hb⟩ : ∃ b, es[2 + k]? = some b := ⟨_, List.getElem?_eq_getElem (by rw [HN.out.2.1]; omega)⟩
      have hl2 := HA.out.2.1.below hbe
      obtain ⟨q, hq⟩ := hl2.node (2 + k) b (.iface 58 (txG x).inner) hb (by rw [List.getElem?_append_right (by rw [HN.out.2.2.1]; omega), HN.out.2.2.1, show 2 + k - 2 = k by omega]; unfold faces; rw [List.getElem?_map, List.getElem?_map, hx]; rfl)
      have e3 : wr.cell? ⟨b, 3, none⟩ = some (.iface 58 (.agg #[.string ⟨#[]⟩, .float .f64 0, .string x, .slice none 0 0, .slice none 0 0, .bool false, .string ⟨#[]⟩, .int .u8 2, .pointer none, .pointer none])) := hq.cell 3
      have hblt : b < wr.heap.size := hq.lt
      have HX := Lib.hid (And.intro hx hb)
      have HR := Lib.hid (And.intro hbe (And.intro hbz (And.intro hown hl2)))
      rw [elemPtr_some hb]
      clear hx hb hq hbe hbz hown hl2
      go_wp2_with fail
      (with_reducible refine (value_text x _).mono ?_)
      rintro e w1 ⟨rfl, hb1⟩
      have HB1 := Lib.hid hb1
      clear hb1 e3
      have hown1 : Owns w1 w0.heap.size 9 1 y (strs (kept (L.take k))) := HR.out.2.2.1.below HB1.out
      have hbe1 := HR.out.1.trans (HB1.out.mono hsz)
      have hl1 := HA.out.2.1.below hbe1
      have hbz1 := HR.out.2.1.trans (below_tk HB1.out)
      have hsz1 := hbe1.size
      have hlk : (strs (kept (L.take k))).length ≤ 1000000 := by unfold strs; rw [List.length_map]; have := kept_len (L.take k); rw [List.length_take] at this; omega
      by_cases hx0 : x.size = 0
      · have hxe : x = ⟨#[]⟩ := by obtain ⟨d⟩ := x; congr 1; exact Array.eq_empty_of_size_eq_zero hx0
        have HK := Lib.hid (And.intro (kept_take0 L k x HX.out.1 hx0) (And.intro hown1 (And.intro hbe1 (And.intro hl1 hbz1))))
        subst hxe
        clear hown1 hbe1 hl1 hbz1 hx0
        go_wp2_with fail
        refine (next_any LB es _ (2 + k) b _ HK.out.2.2.2.1 HX.out.2).mono ?_
        rintro e w4 ⟨rfl, rfl⟩
        go_wp2_with fail
        go_roundg g'
        case measure => omega
        case rel => exact ⟨k + 1, _, by omega, by rw [show 2 + (k + 1) = 2 + k + 1 by omega], rfl, HK.out.2.2.1, HK.out.2.2.2.2, by rw [HK.out.1]; exact HK.out.2.1⟩
      · have hxl : ¬ x.toList = [] := by intro h; rw [Lib.toList_data] at h; have h2 := congrArg List.length h; rw [show x.data.toList.length = x.size from Array.length_toList] at h2; exact hx0 h2
        have HK := Lib.hid (And.intro (kept_take1 L k x HX.out.1 hx0) (And.intro hbe1 (And.intro hl1 hbz1)))
        clear hbe1 hl1 hbz1
        go_wp2_with (at_builtin; refine wpList_append_box w1 rfl (.tmp 51) (.tmp 53) 32 rfl w0.heap.size 9 _ 1 16 Tryz.underlying32 infoS rfl (by decide) y (strs (kept (L.take k))) (by rfl) (by exact hown1) #[.string x] rfl 1 _ (by rfl) (by simp) (by intro u hu; simp at hu; subst hu; rfl) hlk (by decide) (by omega) ?_; intro v' w2' hown2 hg2 hat2 hbe2)
        have hbe2' := HK.out.2.1.trans hbe2
        have HB2 := Lib.hid (And.intro hown2 (And.intro hbe2' (And.intro (HA.out.2.1.below hbe2') (HK.out.2.2.2.trans (tk_grown hown1 hg2)))))
        clear hbe2 hat2 hg2 hbe2' hown2
        refine (next_any LB es _ (2 + k) b _ HB2.out.2.2.1 HX.out.2).mono ?_
        rintro e w4 ⟨rfl, rfl⟩
        go_wp2_with fail
        go_roundg g'
        case measure => omega
        case rel => exact ⟨k + 1, _, by omega, by rw [show 2 + (k + 1) = 2 + k + 1 by omega], rfl, HB2.out.2.1, HB2.out.2.2.2, by rw [HK.out.1]; exact HB2.out.1⟩
    · have hkn : k = n := by omega
      rw [elemPtr_none (by rw [HN.out.2.1]; omega)]
      have HE := Lib.hid (And.intro hbe (And.intro hown hbz))
      have htk : L.take k = L := by rw [hkn, HN.out.1, List.take_length]
      have HT := Lib.hid htk
      clear hbe hown hbz htk hkn
      go_wp2_with fail
      refine (newBool_any true _).mono ?_
      rintro e w6 ⟨rfl, hb6⟩
      have htk6 := HE.out.2.2.trans (below_tk hb6)
      have hblk := htk6 _ _ _ (by decide) HA.out.2.2.2
      have HB4 := Lib.hid (And.intro (HE.out.1.trans (hb6.mono hsz)) (HE.out.2.1.below hb6))
      have HT6 := Lib.hid (HTZ.out.trans htk6)
      clear htk6
      have zl := hblk.lt
      have z0 : w6.cell? ⟨w.heap.size, 0, none⟩ = some (.string ⟨#[]⟩) := hblk.cell 0
      have z1 : w6.cell? ⟨w.heap.size, 1, none⟩ = some (.float .f64 0) := hblk.cell 1
      have z2 : w6.cell? ⟨w.heap.size, 2, none⟩ = some (.string ⟨#[]⟩) := hblk.cell 2
      have z3 : w6.cell? ⟨w.heap.size, 3, none⟩ = some (.slice none 0 0) := hblk.cell 3
      have z4 : w6.cell? ⟨w.heap.size, 4, none⟩ = some (.slice none 0 0) := hblk.cell 4
      have z5 : w6.cell? ⟨w.heap.size, 5, none⟩ = some (.bool false) := hblk.cell 5
      have z6 : w6.cell? ⟨w.heap.size, 6, none⟩ = some (.string ⟨#[]⟩) := hblk.cell 6
      have z7 : w6.cell? ⟨w.heap.size, 7, none⟩ = some (.int .u8 0) := hblk.cell 7
      have z8 : w6.cell? ⟨w.heap.size, 8, none⟩ = some (.pointer none) := hblk.cell 8
      have z9 : w6.cell? ⟨w.heap.size, 9, none⟩ = some (.pointer none) := hblk.cell 9
      have zf : ∀ o, w6.frozen? ⟨w.heap.size, o, none⟩ = false := fun o => hblk.free o
      have hne : y.ownBlock = none ∨ y.ownBlock ≠ some w.heap.size := by
        rcases HB4.out.2.1.2 with ⟨hv, _⟩ | ⟨g, cap, cur, hv, _, hh, _⟩
        · exact .inl (by rw [hv]; rfl)
        · right
          rw [hv]
          intro he
          injection he with he
          have he2 : g = w.heap.size := he
          subst he2
          unfold Blk at hblk
          rw [hblk] at hh
          injection hh with hh
          injection hh with _ h2
          exact absurd h2 (by decide)
      have HNE := Lib.hid hne
      clear hb6 hblk hne
      go_wp2
      exact bodyPost_ret (v := (.tuple #[y, (.agg #[.string ⟨#[]⟩, .float .f64 (bb true), .string ⟨#[]⟩, .slice none 0 0, .slice none 0 0, .bool true, .string ⟨#[]⟩, .int .u8 1, .pointer none, .pointer none])])) (by simp [results, Tryz.results45, go_sem, zl, z0, z1, z2, z3, z4, z5, z6, z7, z8, z9, zf]) rfl ⟨y, rfl, by rw [← HT.out]; exact HB4.out.2.putT HNE.out, belowT HB4.out.1 hsz0, tk_set HT6.out (Nat.le_refl _) _ _ _ _ _ _ _ _ _ _⟩

end Go.Proofs.YtdpkjhohklfieaaGreatDoor
