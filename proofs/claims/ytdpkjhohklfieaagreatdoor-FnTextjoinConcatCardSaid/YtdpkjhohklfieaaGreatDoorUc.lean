/- CONCAT in the package. -/
import Derived.Test.YtdpkjhohklfieaaGreatDoorUn
set_option linter.unusedSimpArgs false
set_option linter.unusedVariables false
namespace Go.Proofs.YtdpkjhohklfieaaGreatDoor
open Go.RowKit
set_option maxRecDepth 100000
set_option maxHeartbeats 1000000

theorem toList_text (s : ByteArray) (w : World) : Calls Tryz.prog 52 #[(.agg #[.string ⟨#[]⟩, .float .f64 0, .string s, .slice none 0 0, .slice none 0 0, .bool false, .string ⟨#[]⟩, .int .u8 2, .pointer none, .pointer none])] w fun e w' => ∃ g, e = .returned (.slice (some ⟨g, 0, none⟩) 1 1) ∧ w.heap.size ≤ g ∧ Blk w' g 58 #[.string ⟨#[]⟩, .float .f64 0, .string s, .slice none 0 0, .slice none 0 0, .bool false, .string ⟨#[]⟩, .int .u8 2, .pointer none, .pointer none] ∧ Below w.heap.size w w' := by
  go_enter Tryz.func52, Tryz.ntmps52
  go_wp2
  go_ret
  have hB := Blk.new (w.alloc (.cells #[.string ⟨#[]⟩, .float .f64 0, .string s, .slice none 0 0, .slice none 0 0, .bool false, .string ⟨#[]⟩, .int .u8 2, .pointer none, .pointer none] 58)) 58 #[.string ⟨#[]⟩, .float .f64 0, .string s, .slice none 0 0, .slice none 0 0, .bool false, .string ⟨#[]⟩, .int .u8 2, .pointer none, .pointer none]
  rw [World.size_alloc] at hB
  exact ⟨_, rfl, by simp, hB, (by (repeat' (first | with_reducible exact Below.refl _ _ | with_reducible refine Below.setCell ?_ ?_ _ | with_reducible refine Below.alloc ?_ ?_ _ | with_reducible refine Below.drew ?_ | with_reducible refine Below.trans ?_ (Below.mono (by assumption) ?_))); all_goals (first | omega | (simp [World.setCell]; done) | (simp [World.setCell]; omega)))⟩

theorem below_drewNT (w : World) (n : Nat) : Below w.heap.size w (w.drewN n) := ⟨rfl, rfl, rfl, Nat.le_refl _, fun _ _ => rfl⟩
def txG (s : ByteArray) : Gl := ⟨2, 0, s⟩
/-- The texts, one behind the other. -/
def cat (L : List ByteArray) : List UInt8 := (L.map (·.data.toList)).flatten
theorem cat_take (L : List ByteArray) (k : Nat) (x : ByteArray) (h : L[k]? = some x) : cat (L.take (k + 1)) = cat (L.take k) ++ x.data.toList := by
  unfold cat
  rw [List.take_add_one, h, List.map_append, List.flatten_append]
  simp
theorem cat_len : ∀ (L : List ByteArray), (∀ x ∈ L, x.size ≤ 100) → (cat L).length ≤ 100 * L.length
  | [], _ => by simp [cat]
  | x :: L, h => by
    have h1 := cat_len L fun y hy => h y (List.mem_cons_of_mem _ hy)
    have h2 := h x (List.mem_cons_self ..)
    have hl : x.data.toList.length = x.size := Array.length_toList
    unfold cat at h1 ⊢
    rw [List.map_cons, List.flatten_cons, List.length_append, List.length_cons]
    omega

set_option maxHeartbeats 8000000 in
theorem concat_any (p : Addr) (LB : Nat) (es : List Nat) (L : List ByteArray) (w : World) (h : IsList w LB es (faces (L.map txG))) (h0 : L ≠ []) (hn : L.length ≤ 20) (hs : ∀ x ∈ L, x.size ≤ 100) :
    Calls Tryz.prog 47 #[.pointer (some p), .pointer (some ⟨LB, 0, none⟩)] w fun e w' => e = .returned (.agg #[.string ⟨#[]⟩, .float .f64 0, .string (⟨(cat L).toArray⟩), .slice none 0 0, .slice none 0 0, .bool false, .string ⟨#[]⟩, .int .u8 2, .pointer none, .pointer none]) ∧ Below w.heap.size w w' := by
  obtain ⟨n, hnl⟩ : ∃ n, n = L.length := ⟨_, rfl⟩
  have hel : es.length = n := by rw [h.len]; unfold faces; rw [List.length_map, List.length_map, hnl]
  have hne : es ≠ [] := by intro h2; rw [h2] at hel; rw [← hel] at hnl; exact h0 (List.eq_nil_of_length_eq_zero hnl.symm)
  rw [← hnl] at hn
  have hbA : Below w.heap.size w ((w.alloc (.cells #[.string ⟨#[]⟩, .float .f64 0, .string ⟨#[]⟩, .slice none 0 0, .slice none 0 0, .bool false, .string ⟨#[]⟩, .int .u8 0, .pointer none, .pointer none] 58)).alloc (.cells #[.slice none 0 0, .int .i64 0, .int .i8 0] 114)) := ((Below.refl _ _).alloc (Nat.le_refl _) _).alloc (by simp) _
  have hB0 : Blk ((w.alloc (.cells #[.string ⟨#[]⟩, .float .f64 0, .string ⟨#[]⟩, .slice none 0 0, .slice none 0 0, .bool false, .string ⟨#[]⟩, .int .u8 0, .pointer none, .pointer none] 58)).alloc (.cells #[.slice none 0 0, .int .i64 0, .int .i8 0] 114)) w.heap.size 58 #[.string ⟨#[]⟩, .float .f64 0, .string ⟨#[]⟩, .slice none 0 0, .slice none 0 0, .bool false, .string ⟨#[]⟩, .int .u8 0, .pointer none, .pointer none] := (Blk.new _ _ _).alloc _
  have hbuf := LibA.of_whole (Lib.fresh_isBuffer 114 5 (w.alloc (.cells #[.string ⟨#[]⟩, .float .f64 0, .string ⟨#[]⟩, .slice none 0 0, .slice none 0 0, .bool false, .string ⟨#[]⟩, .int .u8 0, .pointer none, .pointer none] 58)))
  rw [World.size_alloc] at hbuf
  obtain ⟨wA, hwA⟩ : ∃ wA, wA = (w.alloc (.cells #[.string ⟨#[]⟩, .float .f64 0, .string ⟨#[]⟩, .slice none 0 0, .slice none 0 0, .bool false, .string ⟨#[]⟩, .int .u8 0, .pointer none, .pointer none] 58)).alloc (.cells #[.slice none 0 0, .int .i64 0, .int .i8 0] 114) := ⟨_, rfl⟩
  have hsA : wA.heap.size = w.heap.size + 2 := by rw [hwA]; simp
  rw [← hwA] at hbA hB0 hbuf
  have HN := Lib.hid (And.intro hnl (And.intro hel (And.intro hne hs)))
  have HA := Lib.hid (And.intro hbA (And.intro hB0 (And.intro (h.below hbA) h)))
  have HBU := Lib.hid hbuf
  clear h hnl hel hne hs hbA hB0 hbuf h0
  go_enter Tryz.func47, Tryz.ntmps47
  go_wp2_with fail
  rw [← hwA]
  clear hwA
  refine (front_list LB es _ _ HA.out.2.2.1 HN.out.2.2.1).mono ?_
  rintro e v1 ⟨rfl, rfl⟩
  go_wp2_with fail
  go_loopg [6] n (fun gf i wr => ∃ k : Nat, k + gf = n ∧ i = elemPtr es k ∧ Below (w.heap.size + 1) wA wr ∧ LibA.IsBuffer 114 (fun _ => none) 5 (w.heap.size + 1) (w.heap.size + 1) 0 (Lib.byteCells (cat (L.take k))) wr)
  case atStart => exact ⟨0, by omega, rfl, Below.refl _ _, HBU.out⟩
  case round =>
    obtain ⟨k, hk, rfl, hbe, hbu⟩ := hrel
    have hsz := hbe.size
    by_cases hlt : k < n
    · obtain ⟨g', rfl⟩ : ∃ g', gk = g' + 1 := ⟨gk - 1, by omega⟩
      obtain ⟨x, hx⟩ : ∃ x, L[k]? = some x := ⟨_, List.getElem?_eq_getElem (by rw [← HN.out.1]; exact hlt)⟩
      obtain ⟨b, hb⟩ : ∃ b, es[k]? = some b := ⟨_, List.getElem?_eq_getElem (by rw [HN.out.2.1]; exact hlt)⟩
      have hxs := HN.out.2.2.2 x (List.mem_of_getElem? hx)
      have hbw := HA.out.1.trans (hbe.mono (Nat.le_succ _))
      have hl2 := HA.out.2.2.2.below hbw
      obtain ⟨q, hq⟩ := hl2.node k b (.iface 58 (txG x).inner) hb (by unfold faces; rw [List.getElem?_map, List.getElem?_map, hx]; rfl)
      have e3 : wr.cell? ⟨b, 3, none⟩ = some (.iface 58 (.agg #[.string ⟨#[]⟩, .float .f64 0, .string x, .slice none 0 0, .slice none 0 0, .bool false, .string ⟨#[]⟩, .int .u8 2, .pointer none, .pointer none])) := hq.cell 3
      have hblt : b < wr.heap.size := hq.lt
      have hcl : (cat (L.take k)).length ≤ 2000 := Nat.le_trans (cat_len _ fun y hy => HN.out.2.2.2 y (List.mem_of_mem_take hy)) (by rw [List.length_take]; omega)
      have HX := Lib.hid (And.intro (cat_take L k x hx) (And.intro hb (And.intro hxs hcl)))
      have HR := Lib.hid (And.intro hbe (And.intro hbu (And.intro hbw hl2)))
      rw [elemPtr_some hb]
      clear hx hb hq hxs hcl hbe hbu hbw hl2
      go_wp2_with fail
      (with_reducible refine (toList_text x _).mono ?_)
      rintro e w1 ⟨g, rfl, hg, hgb, hb1⟩
      have g0 : w1.cell? ⟨g, 0, none⟩ = some (.string ⟨#[]⟩) := hgb.cell 0
      have g1 : w1.cell? ⟨g, 1, none⟩ = some (.float .f64 0) := hgb.cell 1
      have g2 : w1.cell? ⟨g, 2, none⟩ = some (.string x) := hgb.cell 2
      have g3 : w1.cell? ⟨g, 3, none⟩ = some (.slice none 0 0) := hgb.cell 3
      have g4 : w1.cell? ⟨g, 4, none⟩ = some (.slice none 0 0) := hgb.cell 4
      have g5 : w1.cell? ⟨g, 5, none⟩ = some (.bool false) := hgb.cell 5
      have g6 : w1.cell? ⟨g, 6, none⟩ = some (.string ⟨#[]⟩) := hgb.cell 6
      have g7 : w1.cell? ⟨g, 7, none⟩ = some (.int .u8 2) := hgb.cell 7
      have g8 : w1.cell? ⟨g, 8, none⟩ = some (.pointer none) := hgb.cell 8
      have g9 : w1.cell? ⟨g, 9, none⟩ = some (.pointer none) := hgb.cell 9
      have HB1 := Lib.hid hb1
      clear hgb hb1
      go_wp2_with fail
      refine wp_loop_rounds 2 ?_
      rw [rounds_succ]
      go_wp2_with fail
      (with_reducible refine (value_text x _).mono ?_)
      rintro e w2 ⟨rfl, hb2⟩
      have hb12 := ((Below.refl _ w1).alloc (Nat.le_refl _) (.cells #[.string ⟨#[]⟩, .float .f64 0, .string x, .slice none 0 0, .slice none 0 0, .bool false, .string ⟨#[]⟩, .int .u8 2, .pointer none, .pointer none] 58)).trans (hb2.mono (by simp))
      have hbr2 := HB1.out.trans (hb12.mono HB1.out.size)
      have hbu2 := HR.out.2.1.old hbr2
      have HB2 := Lib.hid (And.intro hbr2 hbu2)
      clear hb2 hb12 hbr2 hbu2 g0 g1 g2 g3 g4 g5 g6 g7 g8 g9 e3
      go_wp2_with fail
      refine (Tryz.Buffer_WriteString_at 114 (fun _ => none) (w.heap.size + 1) (w.heap.size + 1) 0 (Lib.byteCells (cat (L.take k))) x _ HB2.out.2 (by have := HB2.out.1.size; omega) (Lib.byteCells_one _) (by have := HX.out.2.2; rw [show (Lib.byteCells (cat (L.take k))).length = (cat (L.take k)).length from List.length_map _]; omega)).mono ?_
      rintro e w3 ⟨rfl, hbu3, hb3, -⟩
      have hbs3 := (HR.out.1.trans (HB2.out.1.mono (by omega))).trans hb3
      have HB3 := Lib.hid (And.intro hbu3 (And.intro hbs3 (HA.out.2.2.2.below (HA.out.1.trans (hbs3.mono (Nat.le_succ _))))))
      clear hbu3 hb3 hbs3
      go_wp2_with fail
      rw [rounds_succ]
      go_wp2_with fail
      refine (next_any LB es _ k b _ HB3.out.2.2 HX.out.2.1).mono ?_
      rintro e w4 ⟨rfl, rfl⟩
      go_wp2_with fail
      go_roundg g'
      case measure => omega
      case rel => exact ⟨k + 1, by omega, rfl, HB3.out.2.1, by have := HB3.out.1; rw [HX.out.1]; unfold Lib.byteCells at this ⊢; rw [List.map_append]; exact this⟩
    · have hkn : k = n := by omega
      have hbk := HA.out.2.1.below hbe (Nat.lt_succ_self _)
      have HE := Lib.hid (And.intro hbu (And.intro hbk (HA.out.1.trans (hbe.mono (Nat.le_succ _)))))
      have htk : cat (L.take k) = cat L := by rw [hkn, HN.out.1, List.take_length]
      rw [elemPtr_none (by rw [HN.out.2.1]; omega)]
      clear hbu hbe hbk
      go_wp2_with fail
      refine (Tryz.Buffer_String_at 114 (fun _ => none) (w.heap.size + 1) (w.heap.size + 1) 0 (cat (L.take k)) _ HE.out.1).mono ?_
      rintro e w5 ⟨rfl, q, rfl⟩
      rw [htk]
      have hbd := HE.out.2.2.trans ((below_drewNT wr q).mono (by have := HE.out.2.2.size; omega))
      have HD := Lib.hid (And.intro (HE.out.2.1.below (below_drewNT wr q) HE.out.2.1.lt) hbd)
      clear hbd htk hkn
      go_wp2_with fail
      refine (newString_any _ _).mono ?_
      rintro e w6 ⟨rfl, hb6⟩
      have hblk := HD.out.1.below hb6 HD.out.1.lt
      have HB4 := Lib.hid (HD.out.2.trans (hb6.mono HD.out.2.size))
      have zl := hblk.lt
      have z0 : w6.cell? ⟨w.heap.size, 0, none⟩ = some (.string ⟨#[]⟩) := hblk.cell 0
      have z1 : w6.cell? ⟨w.heap.size, 1, none⟩ = some (.float .f64 0) := hblk.cell 1
      have z2 : w6.cell? ⟨w.heap.size, 2, none⟩ = some (.string ⟨#[]⟩) := hblk.cell 2
      have z3 : w6.cell? ⟨w.heap.size, 3, none⟩ = some (.slice none 0 0) := hblk.cell 3
      have z4 : w6.cell? ⟨w.heap.size, 4, none⟩ = some (.slice none 0 0) := hblk.cell 4
      have z5 : w6.cell? ⟨w.heap.size, 5, none⟩ = some (.bool false) := hblk.cell 5
      have z6 : w6.cell? ⟨w.heap.size, 6, none⟩ = some (.string ⟨#[]⟩) := hblk.cell 6
      have z7 : w6.cell? ⟨w.heap.size, 7, none⟩ = some (.int .u8 0) := hblk.cell 7
      have z8 : w6.cell? ⟨w.heap.size, 8, none⟩ = some (.pointer none) := hblk.cell 8
      have z9 : w6.cell? ⟨w.heap.size, 9, none⟩ = some (.pointer none) := hblk.cell 9
      have zf : ∀ o, w6.frozen? ⟨w.heap.size, o, none⟩ = false := fun o => hblk.free o
      clear hb6 hblk
      go_wp2
      exact bodyPost_ret (v := (.agg #[.string ⟨#[]⟩, .float .f64 0, .string (⟨(cat L).toArray⟩), .slice none 0 0, .slice none 0 0, .bool false, .string ⟨#[]⟩, .int .u8 2, .pointer none, .pointer none])) (by simp [results, Tryz.results47, go_sem, zl, z0, z1, z2, z3, z4, z5, z6, z7, z8, z9, zf]) rfl ⟨rfl, belowT HB4.out (Nat.le_refl _)⟩

end Go.Proofs.YtdpkjhohklfieaaGreatDoor
