/- OR in the package, both doors, agreement, and the laws. -/
import Derived.Test.YtmlcaamgkgdgoaaGreatOp
set_option linter.unusedSimpArgs false
set_option linter.unusedVariables false
namespace Go.Proofs.YtmlcaamgkgdgoaaGreat
open Go.RowKit
set_option maxRecDepth 100000
set_option maxHeartbeats 1000000

theorem or_num (p : Addr) (y : Nat) (b r : Bool) (w : World) (hr : (FloatKind.f64.format.order y 0 != some .eq) = r) :
    Calls Tryz.prog 84 #[.pointer (some p), (.agg #[.string ⟨#[]⟩, .float .f64 y, .string ⟨#[]⟩, .slice none 0 0, .slice none 0 0, .bool b, .string ⟨#[]⟩, .int .u8 1, .pointer none, .pointer none])] w fun e w' => e = .returned (.agg #[.string ⟨#[]⟩, .float .f64 (bb r), .string ⟨#[]⟩, .slice none 0 0, .slice none 0 0, .bool true, .string ⟨#[]⟩, .int .u8 1, .pointer none, .pointer none]) ∧ Below w.heap.size w w' := by
  have z0 : Zero10 ((w.alloc (.cells #[.string ⟨#[]⟩, .float .f64 y, .string ⟨#[]⟩, .slice none 0 0, .slice none 0 0, .bool b, .string ⟨#[]⟩, .int .u8 1, .pointer none, .pointer none] 76)).alloc (.cells #[.string ⟨#[]⟩, .float .f64 0, .string ⟨#[]⟩, .slice none 0 0, .slice none 0 0, .bool false, .string ⟨#[]⟩, .int .u8 0, .pointer none, .pointer none] 76)) (w.heap.size + 1) := by
    have := Zero10.new (w.alloc (.cells #[.string ⟨#[]⟩, .float .f64 y, .string ⟨#[]⟩, .slice none 0 0, .slice none 0 0, .bool b, .string ⟨#[]⟩, .int .u8 1, .pointer none, .pointer none] 76))
    simpa using this
  have Z0 := Lib.hid z0
  clear z0
  cases r
  · go_enter Tryz.func84, Tryz.ntmps84
    go_wp2_with fail
    go_fit (newBool_any false _)
    rintro e w1 ⟨rfl, hb1⟩
    obtain ⟨zl, z0, z1, z2, z3, z4, z5, z6, z7, z8, z9, zf⟩ := (Z0.out.below hb1).facts
    have hbw : Below w.heap.size w w1 := (((Below.refl _ _).alloc (Nat.le_refl _) _).alloc (by simp) _).trans (hb1.mono (by simp; omega))
    clear hb1
    go_wp2
    exact bodyPost_ret (v := (.agg #[.string ⟨#[]⟩, .float .f64 (bb false), .string ⟨#[]⟩, .slice none 0 0, .slice none 0 0, .bool true, .string ⟨#[]⟩, .int .u8 1, .pointer none, .pointer none])) (by simp [results, Tryz.results84, go_sem, zl, z0, z1, z2, z3, z4, z5, z6, z7, z8, z9, zf]) rfl ⟨rfl, below10 hbw (Nat.le_succ _)⟩
  · go_enter Tryz.func84, Tryz.ntmps84
    go_wp2_with fail
    go_fit (newBool_any true _)
    rintro e w1 ⟨rfl, hb1⟩
    obtain ⟨zl, z0, z1, z2, z3, z4, z5, z6, z7, z8, z9, zf⟩ := (Z0.out.below hb1).facts
    have hbw : Below w.heap.size w w1 := (((Below.refl _ _).alloc (Nat.le_refl _) _).alloc (by simp) _).trans (hb1.mono (by simp; omega))
    clear hb1
    go_wp2
    exact bodyPost_ret (v := (.agg #[.string ⟨#[]⟩, .float .f64 (bb true), .string ⟨#[]⟩, .slice none 0 0, .slice none 0 0, .bool true, .string ⟨#[]⟩, .int .u8 1, .pointer none, .pointer none])) (by simp [results, Tryz.results84, go_sem, zl, z0, z1, z2, z3, z4, z5, z6, z7, z8, z9, zf]) rfl ⟨rfl, below10 hbw (Nat.le_succ _)⟩

theorem tr_inner (x : Fv) (h : x.Tr) (h6 : x.k ≠ 6) : ∃ (y : Nat) (b : Bool), x.of.inner = (.agg #[.string ⟨#[]⟩, .float .f64 y, .string ⟨#[]⟩, .slice none 0 0, .slice none 0 0, .bool b, .string ⟨#[]⟩, .int .u8 1, .pointer none, .pointer none]) ∧ (FloatKind.f64.format.order y 0 != some .eq) = (x.n != 0) := by
  obtain ⟨k, n, d, s⟩ := x
  obtain ⟨ho, _, hk | ⟨hk, hd⟩ | hk⟩ := h
  · simp only at hk; subst hk
    rw [Fv.of_eq3]
    refine ⟨floatOfInt .f64 n, true, by simp [Gl.inner], ?_⟩
    rcases ho with (h | h | h | h) | ⟨h, _⟩ | ⟨_, h⟩
    · cases h
    · cases h
    · cases h
    · cases h
    · cases h
    · rcases h with h | h
      · simp only at h; subst h
        show (FloatKind.f64.format.order (floatOfInt .f64 0) 0 != some .eq) = ((0 : Int) != 0)
        decide +kernel
      · simp only at h; subst h
        show (FloatKind.f64.format.order (floatOfInt .f64 1) 0 != some .eq) = ((1 : Int) != 0)
        decide +kernel
  · simp only at hk hd; subst hk hd
    rw [Fv.of_eq1]
    refine ⟨Fl.clean (Fl.nb n 1), false, by simp [Gl.inner], ?_⟩
    have hb : n.natAbs < 2 ^ 53 := by
      rcases ho with (h | h | h | h) | ⟨_, h1, h2, _⟩ | ⟨h, _⟩
      · cases h
      · cases h
      · cases h
      · cases h
      · simp only at h1 h2; omega
      · cases h
    have hi := Fl.is_clean (Fl.is_nb n hb)
    rw [show FloatKind.f64.format = Ieee.double from rfl]
    by_cases hn : n = 0
    · subst hn
      rw [Fl.is_order hi Fl.is_zero0]; rfl
    · have hne := Fl.is_order_ne hi Fl.is_zero0 hn
      have h1 : (Ieee.double.order (Fl.clean (Fl.nb n 1)) 0 != some .eq) = true := by simpa using hne
      have h2 : (n != 0) = true := by simpa using hn
      rw [h1]; exact h2.symm
  · exact absurd hk h6

def OrAt (L : List Fv) (k : Nat) (v : Value) : Prop := v = .bool ((L.take k).any fun x => x.n != 0)

set_option maxHeartbeats 4000000 in
theorem ff_OR (p : Addr) (LB : Nat) (es : List Nat) (L : List Fv) (w : World) (h : IsList w LB es (faces (L.map Fv.of))) (h0 : 0 < L.length) (h30 : L.length ≤ 30) (hT : ∀ x ∈ L, x.Tr) (h6 : ∀ x ∈ L, x.k ≠ 6) :
    Calls Tryz.prog 59 #[.pointer (some p), .pointer (some ⟨LB, 0, none⟩)] w fun e w' => e = .returned (.agg #[.string ⟨#[]⟩, .float .f64 (bb (L.any fun x => x.n != 0)), .string ⟨#[]⟩, .slice none 0 0, .slice none 0 0, .bool true, .string ⟨#[]⟩, .int .u8 1, .pointer none, .pointer none]) ∧ Below w.heap.size w w' := by
  obtain ⟨R, hR⟩ : ∃ R, R = L.any fun x => x.n != 0 := ⟨_, rfl⟩
  rw [← hR]
  have HRR := Lib.hid hR
  clear hR
  obtain ⟨n, hn⟩ : ∃ n, n = L.length := ⟨_, rfl⟩
  have hel : es.length = n := by rw [h.len, faces, List.length_map, List.length_map, hn]
  rw [← hn] at h0 h30
  have hne : es ≠ [] := by intro h; rw [h] at hel; simp at hel; omega
  have HN := Lib.hid (And.intro hn (And.intro hel hne))
  have HT := Lib.hid (And.intro hT h6)
  have Z0 := Lib.hid (Zero10.new w)
  have hbA : Below w.heap.size w (w.alloc (.cells #[.string ⟨#[]⟩, .float .f64 0, .string ⟨#[]⟩, .slice none 0 0, .slice none 0 0, .bool false, .string ⟨#[]⟩, .int .u8 0, .pointer none, .pointer none] 76)) := (Below.refl _ _).alloc (Nat.le_refl _) _
  have hla := h.below hbA
  have HL := Lib.hid (And.intro hla hbA)
  have r4 := hla.root.cell 4
  simp only [List.getElem?_toArray, List.getElem?_cons_zero, List.getElem?_cons_succ] at r4
  rw [hel] at r4
  have hn0 : ((n : Int) == 0) = false := by rw [beq_eq_false_iff_ne]; omega
  clear hn hel hne hT h6 h hbA hla
  go_enter Tryz.func59, Tryz.ntmps59
  go_wp2_with (first | (go_at_call 75; refine (len_any _ _ _ r4).mono ?_; rintro e v1 ⟨rfl, rfl⟩) | fail)
  refine (front_list LB es _ _ HL.out.1 HN.out.2.2).mono ?_
  rintro e w1 ⟨rfl, rfl⟩
  clear r4
  obtain ⟨W, hW⟩ : ∃ W, W = w.alloc (.cells #[.string ⟨#[]⟩, .float .f64 0, .string ⟨#[]⟩, .slice none 0 0, .slice none 0 0, .bool false, .string ⟨#[]⟩, .int .u8 0, .pointer none, .pointer none] 76) := ⟨_, rfl⟩
  rw [← hW] at HL Z0 ⊢
  clear hW
  go_wp2_with fail
  go_loopg [5, 6] n (fun gf v i wr => ∃ k : Nat, k + gf = n ∧ i = elemPtr es k ∧ Below W.heap.size W wr ∧ OrAt L k v)
  case atStart => exact ⟨0, by omega, rfl, Below.refl _ _, rfl⟩
  case round =>
    obtain ⟨k, hk, rfl, hbe, ho⟩ := hrel
    have HO := Lib.hid ho
    by_cases hlt : k < n
    · obtain ⟨g', rfl⟩ : ∃ g', gk = g' + 1 := ⟨gk - 1, by omega⟩
      obtain ⟨x, hx⟩ : ∃ x, L[k]? = some x := ⟨_, List.getElem?_eq_getElem (by rw [← HN.out.1]; exact hlt)⟩
      obtain ⟨b, hb⟩ : ∃ b, es[k]? = some b := ⟨_, List.getElem?_eq_getElem (by rw [HN.out.2.1]; exact hlt)⟩
      have hl2 := HL.out.1.below hbe
      obtain ⟨q, hq⟩ := hl2.node k b (.iface 76 x.of.inner) hb (by simp [faces, hx])
      obtain ⟨y, bo, hin, hyr⟩ := tr_inner x (HT.out.1 x (List.mem_of_getElem? hx)) (HT.out.2 x (List.mem_of_getElem? hx))
      rw [hin] at hq
      have e3 : wr.cell? ⟨b, 3, none⟩ = some (.iface 76 (.agg #[.string ⟨#[]⟩, .float .f64 y, .string ⟨#[]⟩, .slice none 0 0, .slice none 0 0, .bool bo, .string ⟨#[]⟩, .int .u8 1, .pointer none, .pointer none])) := hq.cell 3
      have hblt : b < wr.heap.size := hq.lt
      have hsz := hbe.size
      have hnext : ∀ cur, (L.take k).any (fun x => x.n != 0) = cur → OrAt L (k + 1) (.bool (cur || (x.n != 0))) := by
        intro cur hc
        unfold OrAt
        rw [List.take_add_one, hx, List.any_append, hc]; simp
      have HX := Lib.hid (And.intro hnext (And.intro hb hyr))
      have HL2 := Lib.hid hl2
      rw [elemPtr_some hb]
      clear hx hb hq hin hl2 hnext hyr
      obtain ⟨cur, hcur⟩ : ∃ cur, (L.take k).any (fun x => x.n != 0) = cur := ⟨_, rfl⟩
      have hv5 : u5 = .bool cur := by rw [← hcur]; exact ho
      subst hv5
      have HCU := Lib.hid (HX.out.1 cur hcur)
      clear ho hcur
      obtain ⟨rn, hrn⟩ : ∃ rn, rn = (x.n != 0) := ⟨_, rfl⟩
      rw [← hrn] at HCU
      go_wp2_with fail
      refine (or_num p y bo rn _ (by rw [HX.out.2.2, hrn])).mono ?_
      rintro e w2 ⟨rfl, hb2⟩
      have hbw2 : Below W.heap.size W w2 := hbe.trans (hb2.mono hsz)
      have HL3 := Lib.hid (HL2.out.below hb2)
      have hbne := ne_zero_bb rn
      clear hb2 hrn e3
      cases cur
      · cases rn
        · go_wp2_with fail
          refine (next_any LB es _ k b _ (HL3.out.below ((Below.refl _ _).alloc (Nat.le_refl _) _)) HX.out.2.1).mono ?_
          rintro e w3 ⟨rfl, rfl⟩
          go_wp2_with fail
          go_roundg g'
          case measure => omega
          case rel => exact ⟨k + 1, by omega, rfl, hbw2.alloc hbw2.size _, HCU.out⟩
        · go_wp2_with fail
          refine (next_any LB es _ k b _ (HL3.out.below ((Below.refl _ _).alloc (Nat.le_refl _) _)) HX.out.2.1).mono ?_
          rintro e w3 ⟨rfl, rfl⟩
          go_wp2_with fail
          go_roundg g'
          case measure => omega
          case rel => exact ⟨k + 1, by omega, rfl, hbw2.alloc hbw2.size _, HCU.out⟩
      · clear hbne
        go_wp2_with fail
        refine (next_any LB es _ k b _ (HL3.out.below ((Below.refl _ _).alloc (Nat.le_refl _) _)) HX.out.2.1).mono ?_
        rintro e w3 ⟨rfl, rfl⟩
        go_wp2_with fail
        go_roundg g'
        case measure => omega
        case rel => exact ⟨k + 1, by omega, rfl, hbw2.alloc hbw2.size _, by have := HCU.out; simpa using this⟩
    · obtain rfl : k = n := by omega
      rw [elemPtr_none (by rw [HN.out.2.1]; exact Nat.le_refl _)]
      have hv5 : u5 = .bool R := by
        rw [HRR.out]
        unfold OrAt at ho
        rwa [List.take_of_length_le (by rw [HN.out.1]; exact Nat.le_refl _)] at ho
      subst hv5
      clear ho HO
      go_wp2_with fail
      refine (newBool_any R _).mono ?_
      rintro e w2 ⟨rfl, hb2⟩
      have hbw2 := (HL.out.2.trans (hbe.mono HL.out.2.size)).trans (hb2.mono (Nat.le_trans HL.out.2.size hbe.size))
      obtain ⟨zl, z0, z1, z2, z3, z4, z5, z6, z7, z8, z9, zf⟩ := ((Z0.out.below hbe).below hb2).facts
      clear hb2
      go_wp2
      exact bodyPost_ret (v := (.agg #[.string ⟨#[]⟩, .float .f64 (bb R), .string ⟨#[]⟩, .slice none 0 0, .slice none 0 0, .bool true, .string ⟨#[]⟩, .int .u8 1, .pointer none, .pointer none])) (by simp [results, Tryz.results59, go_sem, zl, z0, z1, z2, z3, z4, z5, z6, z7, z8, z9, zf]) rfl ⟨rfl, below10 hbw2 (Nat.le_refl _)⟩

end Go.Proofs.YtmlcaamgkgdgoaaGreat
