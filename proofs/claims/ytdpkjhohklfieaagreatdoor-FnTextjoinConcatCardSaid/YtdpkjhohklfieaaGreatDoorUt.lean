/- TEXTJOIN's own body. -/
import Derived.Test.YtdpkjhohklfieaaGreatDoorUq
import Derived.Test.YtdpkjhohklfieaaGreatDoorUr
import Derived.Deep.CutRange
set_option linter.unusedSimpArgs false
set_option linter.unusedVariables false
namespace Go.Proofs.YtdpkjhohklfieaaGreatDoor
open Go.RowKit
set_option maxRecDepth 100000
set_option maxHeartbeats 1000000

section
variable {P : Program} {l : List Oper} {Q : Exit → Act → World → Prop} {md : Region.Mode} {S : World → Prop}
theorem takeU {i : Nat} {oi : Oper} {v : Value} {fuel : Nat} {listed : Array Bool} {a : Act} {w : World} (hi : l[i]? = some oi)
    (hs : Region.noSelect l.toArray = true) (hf : Region.free md l.toArray listed i = true) (hr : (Region.ready md l.toArray listed).contains i = true)
    (hQ : ∀ c a w, Q (.panic c) (a.put oi.dst v) w → Q (.panic c) a w) (hy : YieldsIf P l.toArray S oi v a) (hS : S w)
    (h : wpAnyH P md l.toArray Q S fuel (listed.setIfInBounds i true) (a.put oi.dst v) w) : wpAnyH P md l.toArray Q S (fuel + 1) listed a w :=
  wpAnyH_take (by rw [List.getElem?_toArray]; exact hi) hs hf hr hQ hy hS h
theorem consU {fuel : Nat} {listed : Array Bool} {a : Act} {w : World} {i : Nat} {o : Oper} {rs : List Nat} (ho : l[i]? = some o)
    (h : ∀ K' : Act → World → Prop, Shut (∀ a w, S w → (S w → wpAnyH P md l.toArray Q S fuel (listed.setIfInBounds i true) a w) → K' a w) → if Region.wanted o (yielded l.toArray a.tmps) = true then Oper.wp P o a w K' Q else K' (a.put o.dst undef) w)
    (hs : AllReadyH P md l.toArray Q S fuel listed a w rs) : AllReadyH P md l.toArray Q S fuel listed a w (i :: rs) :=
  AllReadyH.cons (by rw [List.getElem?_toArray]; exact ho) h hs
end
theorem own_empty (w : World) (B : Nat) (h : B ≤ w.heap.size) : Owns (w.alloc (.cells #[] 9)) B 9 1 (.slice (some ⟨w.heap.size, 0, none⟩) 0 0) [] :=
  ⟨⟨rfl, .inr ⟨w.heap.size, 0, #[], rfl, h, Blk.new w _ _, Nat.le_refl _, Nat.zero_le _, rfl, rfl⟩⟩, by simp⟩

def preG : List Gl := [⟨2, 0, ⟨#[]⟩⟩, ⟨3, (bb true), ⟨#[]⟩⟩]
theorem blk_facts {w : World} {B : Nat} {x : Nat} {s : ByteArray} {t : Int} {b : Bool} (h : Blk w B 58 #[.string ⟨#[]⟩, .float .f64 x, .string s, .slice none 0 0, .slice none 0 0, .bool b, .string ⟨#[]⟩, .int .u8 t, .pointer none, .pointer none]) :
    w.cell? ⟨B, 0, none⟩ = some (.string ⟨#[]⟩) ∧ w.cell? ⟨B, 1, none⟩ = some (.float .f64 x) ∧ w.cell? ⟨B, 2, none⟩ = some (.string s) ∧ w.cell? ⟨B, 3, none⟩ = some (.slice none 0 0) ∧ w.cell? ⟨B, 4, none⟩ = some (.slice none 0 0) ∧ w.cell? ⟨B, 5, none⟩ = some (.bool b) ∧ w.cell? ⟨B, 6, none⟩ = some (.string ⟨#[]⟩) ∧ w.cell? ⟨B, 7, none⟩ = some (.int .u8 t) ∧ w.cell? ⟨B, 8, none⟩ = some (.pointer none) ∧ w.cell? ⟨B, 9, none⟩ = some (.pointer none) :=
  ⟨h.cell 0, h.cell 1, h.cell 2, h.cell 3, h.cell 4, h.cell 5, h.cell 6, h.cell 7, h.cell 8, h.cell 9⟩

set_option maxHeartbeats 16000000 in
theorem ff_TEXTJOIN (p : Addr) (LB : Nat) (es : List Nat) (L : List ByteArray) (w : World) (h : IsList w LB es (faces preG ++ faces (L.map txG))) (h0 : L ≠ []) (hn : L.length ≤ 20) (hs : ∀ x ∈ L, x.size ≤ 100) (ha : ∀ x ∈ L, ∀ c ∈ x.data.toList, c.toNat < 128) :
    Calls Tryz.prog 30 #[.pointer (some p), .pointer (some ⟨LB, 0, none⟩)] w fun e w' => e = .returned (.agg #[.string ⟨#[]⟩, .float .f64 0, .string (⟨(cat L).toArray⟩), .slice none 0 0, .slice none 0 0, .bool false, .string ⟨#[]⟩, .int .u8 2, .pointer none, .pointer none]) ∧ Below w.heap.size w w' := by
  obtain ⟨n, hnl⟩ : ∃ n, n = L.length := ⟨_, rfl⟩
  have hn0 : 0 < n := by rw [hnl]; exact List.length_pos_iff.2 h0
  have hel : es.length = 2 + n := by rw [h.len, List.length_append]; unfold faces preG; rw [List.length_map, List.length_map, List.length_map, hnl]; rfl
  have hne : es ≠ [] := by intro h2; rw [h2] at hel; simp at hel; omega
  obtain ⟨b0, hb0⟩ : ∃ b, es[0]? = some b := ⟨_, List.getElem?_eq_getElem (by omega)⟩
  obtain ⟨b1, hb1⟩ : ∃ b, es[1]? = some b := ⟨_, List.getElem?_eq_getElem (by omega)⟩
  rw [← hnl] at hn
  have hbA : Below w.heap.size w (w.alloc (.cells #[.string ⟨#[]⟩, .float .f64 0, .string ⟨#[]⟩, .slice none 0 0, .slice none 0 0, .bool false, .string ⟨#[]⟩, .int .u8 0, .pointer none, .pointer none] 58)) := (Below.refl _ _).alloc (Nat.le_refl _) _
  have hB0 : Blk (w.alloc (.cells #[.string ⟨#[]⟩, .float .f64 0, .string ⟨#[]⟩, .slice none 0 0, .slice none 0 0, .bool false, .string ⟨#[]⟩, .int .u8 0, .pointer none, .pointer none] 58)) w.heap.size 58 #[.string ⟨#[]⟩, .float .f64 0, .string ⟨#[]⟩, .slice none 0 0, .slice none 0 0, .bool false, .string ⟨#[]⟩, .int .u8 0, .pointer none, .pointer none] := Blk.new _ _ _
  obtain ⟨wA, hwA⟩ : ∃ wA, wA = w.alloc (.cells #[.string ⟨#[]⟩, .float .f64 0, .string ⟨#[]⟩, .slice none 0 0, .slice none 0 0, .bool false, .string ⟨#[]⟩, .int .u8 0, .pointer none, .pointer none] 58) := ⟨_, rfl⟩
  have hsA : wA.heap.size = w.heap.size + 1 := by rw [hwA]; simp
  rw [← hwA] at hbA hB0
  have hlA := h.below hbA
  obtain ⟨q0, hq0⟩ := hlA.node 0 b0 _ hb0 rfl
  obtain ⟨q1, hq1⟩ := hlA.node 1 b1 _ hb1 rfl
  have e0 : wA.cell? ⟨b0, 3, none⟩ = some (.iface 58 (.agg #[.string ⟨#[]⟩, .float .f64 0, .string ⟨#[]⟩, .slice none 0 0, .slice none 0 0, .bool false, .string ⟨#[]⟩, .int .u8 2, .pointer none, .pointer none])) := hq0.cell 3
  have e1 : wA.cell? ⟨b1, 3, none⟩ = some (.iface 58 (.agg #[.string ⟨#[]⟩, .float .f64 (bb true), .string ⟨#[]⟩, .slice none 0 0, .slice none 0 0, .bool true, .string ⟨#[]⟩, .int .u8 1, .pointer none, .pointer none])) := hq1.cell 3
  have l0 : b0 < wA.heap.size := hq0.lt
  have l1 : b1 < wA.heap.size := hq1.lt
  have h4 : wA.cell? ⟨LB, 4, none⟩ = some (.int .i64 (2 + n : Nat)) := by have := hlA.root.cell 4; rw [this, hel]; rfl
  have HL := Lib.hid (And.intro h (And.intro hbA (And.intro hB0 (And.intro hel hne))))
  have HN := Lib.hid (And.intro hnl (And.intro hb0 (And.intro hb1 (And.intro hs (And.intro ha hlA)))))
  have H4 := Lib.hid h4
  clear h hel hne hnl hb0 hb1 hs ha h0 hbA hB0 hlA hq0 hq1 h4
  go_enter Tryz.func30, Tryz.ntmps30
  go_wp2_with fail
  rw [← hwA]
  clear hwA
  refine (len_any _ _ _ H4.out).mono ?_
  rintro e v1 ⟨rfl, rfl⟩
  go_wp2_with fail
  refine (len_any _ _ _ H4.out).mono ?_
  rintro e v1 ⟨rfl, rfl⟩
  go_wp2_with fail
  refine (front_list LB es _ _ HN.out.2.2.2.2.2 HL.out.2.2.2.2).mono ?_
  rintro e v1 ⟨rfl, rfl⟩
  rw [elemPtr_some HN.out.2.1]
  go_wp2_with fail
  obtain ⟨wB, hwB⟩ : ∃ wB, wB = wA.alloc (.cells #[.string ⟨#[]⟩, .float .f64 0, .string ⟨#[]⟩, .slice none 0 0, .slice none 0 0, .bool false, .string ⟨#[]⟩, .int .u8 2, .pointer none, .pointer none] 58) := ⟨_, rfl⟩
  have hAB : Below wA.heap.size wA wB := hwB ▸ (Below.refl _ _).alloc (Nat.le_refl _) _
  have hsB : wB.heap.size = w.heap.size + 2 := by rw [hwB]; simp [hsA]
  have hBT : Blk wB (w.heap.size + 1) 58 #[.string ⟨#[]⟩, .float .f64 0, .string ⟨#[]⟩, .slice none 0 0, .slice none 0 0, .bool false, .string ⟨#[]⟩, .int .u8 2, .pointer none, .pointer none] := by have := Blk.new wA 58 #[.string ⟨#[]⟩, .float .f64 0, .string ⟨#[]⟩, .slice none 0 0, .slice none 0 0, .bool false, .string ⟨#[]⟩, .int .u8 2, .pointer none, .pointer none]; rw [hsA] at this; exact hwB ▸ this
  have e1' : wB.cell? ⟨b1, 3, none⟩ = _ := (hAB.cell (p := ⟨b1, 3, none⟩) l1).trans e1
  have HLB := Lib.hid (And.intro (HN.out.2.2.2.2.2.below hAB) (And.intro hBT hAB))
  rw [← hwB]
  clear hwB e0 e1 hAB hBT
  refine (front_list LB es _ _ HLB.out.1 HL.out.2.2.2.2).mono ?_
  rintro e v1 ⟨rfl, rfl⟩
  rw [elemPtr_some HN.out.2.1]
  go_wp2_with fail
  refine (next_any LB es _ 0 b0 _ HLB.out.1 HN.out.2.1).mono ?_
  rintro e v1 ⟨rfl, rfl⟩
  rw [elemPtr_some HN.out.2.2.1]
  go_wp2_with fail
  obtain ⟨wC, hwC⟩ : ∃ wC, wC = wB.alloc (.cells #[.string ⟨#[]⟩, .float .f64 (bb true), .string ⟨#[]⟩, .slice none 0 0, .slice none 0 0, .bool true, .string ⟨#[]⟩, .int .u8 1, .pointer none, .pointer none] 58) := ⟨_, rfl⟩
  have hBC : Below wB.heap.size wB wC := hwC ▸ (Below.refl _ _).alloc (Nat.le_refl _) _
  have hsC : wC.heap.size = w.heap.size + 3 := by rw [hwC]; simp [hsB]
  have hCB : Blk wC (w.heap.size + 2) 58 #[.string ⟨#[]⟩, .float .f64 (bb true), .string ⟨#[]⟩, .slice none 0 0, .slice none 0 0, .bool true, .string ⟨#[]⟩, .int .u8 1, .pointer none, .pointer none] := by have := Blk.new wB 58 #[.string ⟨#[]⟩, .float .f64 (bb true), .string ⟨#[]⟩, .slice none 0 0, .slice none 0 0, .bool true, .string ⟨#[]⟩, .int .u8 1, .pointer none, .pointer none]; rw [hsB] at this; exact hwC ▸ this
  have c1 : wC.cell? ⟨w.heap.size + 2, 1, none⟩ = some (.float .f64 (bb true)) := hCB.cell 1
  have HLC := Lib.hid (And.intro (HLB.out.1.below hBC) (And.intro (HLB.out.2.1.below hBC HLB.out.2.1.lt) (And.intro hCB (HLB.out.2.2.trans (hBC.mono (by omega))))))
  try rw [← hwC]
  clear hwC hBC hCB e1'
  -- REGION
  go_cut [5, 7, 8] from 40 to 51 (fun d y b8 wx => d = .pointer (some ⟨w.heap.size + 1, 0, none⟩) ∧ ∃ B8 : Nat, b8 = .pointer (some ⟨B8, 0, none⟩) ∧ Below wC.heap.size wC wx ∧ Owns wx wC.heap.size 9 1 y (strs (kept L)) ∧ wC.heap.size ≤ B8 ∧ Blk wx B8 58 #[.string ⟨#[]⟩, .float .f64 (bb true), .string ⟨#[]⟩, .slice none 0 0, .slice none 0 0, .bool true, .string ⟨#[]⟩, .int .u8 1, .pointer none, .pointer none])
  case first =>
    have hb0 := (Below.refl wC.heap.size wC).drew
    have hnz := ne_zero_bb true
    refine wp_region_held_drew (S := fun X => Below wC.heap.size wC X) (by kernel_rfl) hb0 (fun hHeld => ?_)
    refine takeU (i := 0) (v := ?v1) rfl (by kernel_rfl) (by kernel_rfl) (by kernel_rfl) (fun _ _ _ h => h) (Or.inl ⟨by rfl, ?h1⟩) (by assumption) ?r1
    case h1 => (intro X hSw; have cc := (hSw.cell (p := ⟨w.heap.size + 2, 1, none⟩) (by show w.heap.size + 2 < wC.heap.size; omega)).trans c1; go_simp <;> with_reducible rfl)
    (try simp only [Act.put, List.setIfInBounds_toArray, List.set_cons_zero, List.set_cons_succ])
    refine takeU (i := 5) (v := ?v2) rfl (by kernel_rfl) (by kernel_rfl) (by kernel_rfl) (fun _ _ _ h => h) (Or.inl ⟨by rfl, ?h2⟩) (by assumption) ?r2
    case h2 => (intro X hSw; have cc := (hSw.cell (p := ⟨w.heap.size + 2, 1, none⟩) (by show w.heap.size + 2 < wC.heap.size; omega)).trans c1; go_simp <;> with_reducible rfl)
    (try simp only [Act.put, List.setIfInBounds_toArray, List.set_cons_zero, List.set_cons_succ])
    refine takeU (i := 6) (v := ?v3) rfl (by kernel_rfl) (by kernel_rfl) (by kernel_rfl) (fun _ _ _ h => h) (Or.inl ⟨by rfl, ?h3⟩) (by assumption) ?r3
    case h3 => (intro X hSw; have cc := (hSw.cell (p := ⟨w.heap.size + 2, 1, none⟩) (by show w.heap.size + 2 < wC.heap.size; omega)).trans c1; go_simp <;> with_reducible rfl)
    (try simp only [Act.put, List.setIfInBounds_toArray, List.set_cons_zero, List.set_cons_succ])
    refine takeU (i := 7) (v := .bool true) rfl (by kernel_rfl) (by kernel_rfl) (by kernel_rfl) (fun _ _ _ h => h) (Or.inl ⟨by rfl, ?h4⟩) (by assumption) ?r4
    case h4 => (intro X hSw; have cc := (hSw.cell (p := ⟨w.heap.size + 2, 1, none⟩) (by show w.heap.size + 2 < wC.heap.size; omega)).trans c1; go_simp <;> with_reducible rfl)
    (try simp only [Act.put, List.setIfInBounds_toArray, List.set_cons_zero, List.set_cons_succ])
    refine takeReads (i := 1) (v := .pointer (some ⟨b0, 0, none⟩)) rfl (by kernel_rfl) (by kernel_rfl) (by kernel_rfl) (fun _ _ _ h => h) ⟨by rfl, 38, #[.pointer (some ⟨LB, 0, none⟩)], ?h5⟩ (by assumption) ?r5
    case h5 =>
      intro X hSw
      refine ⟨?_, ?_⟩
      · go_simp <;> with_reducible rfl
      · (with_reducible refine (front_list LB es _ _ (HLC.out.1.below hSw) HL.out.2.2.2.2).mono ?_)
        rintro e v ⟨rfl, rfl⟩
        exact ⟨congrArg Ending.returned (elemPtr_some HN.out.2.1), rfl⟩
    (try simp only [Act.put, List.setIfInBounds_toArray, List.set_cons_zero, List.set_cons_succ])
    refine takeReads (i := 2) (v := .pointer (some ⟨b1, 0, none⟩)) rfl (by kernel_rfl) (by kernel_rfl) (by kernel_rfl) (fun _ _ _ h => h) ⟨by rfl, 44, #[.pointer (some ⟨b0, 0, none⟩)], ?h6⟩ (by assumption) ?r6
    case h6 =>
      intro X hSw
      refine ⟨?_, ?_⟩
      · go_simp <;> with_reducible rfl
      · (with_reducible refine (next_any LB es _ 0 b0 _ (HLC.out.1.below hSw) HN.out.2.1).mono ?_)
        rintro e v ⟨rfl, rfl⟩
        exact ⟨congrArg Ending.returned (elemPtr_some HN.out.2.2.1), rfl⟩
    (try simp only [Act.put, List.setIfInBounds_toArray, List.set_cons_zero, List.set_cons_succ])
    refine takeReads (i := 3) (v := elemPtr es 2) rfl (by kernel_rfl) (by kernel_rfl) (by kernel_rfl) (fun _ _ _ h => h) ⟨by rfl, 44, #[.pointer (some ⟨b1, 0, none⟩)], ?h7⟩ (by assumption) ?r7
    case h7 =>
      intro X hSw
      refine ⟨?_, ?_⟩
      · go_simp <;> with_reducible rfl
      · (with_reducible refine (next_any LB es _ 1 b1 _ (HLC.out.1.below hSw) HN.out.2.2.1).mono ?_)
        rintro e v ⟨rfl, rfl⟩
        exact ⟨rfl, rfl⟩
    (try simp only [Act.put, List.setIfInBounds_toArray, List.set_cons_zero, List.set_cons_succ])
    refine wpAnyH_ready (rs := [4, 12]) (by kernel_rfl) (by simp) ?_
    refine consU rfl (fun K hK => ?_) (consU rfl (fun K hK => ?_) AllReadyH.nil)
    · go_simp
      have hb8 := hb0.alloc hb0.size (.cells #[] 9)
      refine hK.out _ _ hb8 (fun hHeld => ?_)
      clear hK K
      (try simp only [Act.put, List.setIfInBounds_toArray, List.set_cons_zero, List.set_cons_succ])
      refine wpAnyH_ready (rs := [8, 12]) (by kernel_rfl) (by simp) ?_
      refine consU rfl (fun K hK => ?_) (consU rfl (fun K hK => ?_) AllReadyH.nil)
      · go_simp
        have hy := own_empty wC wC.heap.size (Nat.le_refl _)
        rw [show (⟨wC.heap.size, 0, none⟩ : Addr) = ⟨w.heap.size + 3, 0, none⟩ from by rw [hsC]] at hy
        have hy : Owns (wC.alloc (.cells #[] 9)).drew wC.heap.size 9 1 (.slice (some ⟨w.heap.size + 3, 0, none⟩) 0 0) [] := hy
        have hb8w : Below wC.heap.size wC (wC.alloc (.cells #[] 9)).drew := hb8
        (with_reducible refine (textJoin_any LB es (faces preG) L _ wC (wC.alloc (.cells #[] 9)).drew HLC.out.1 rfl (by rw [← HN.out.1]; exact hn0) (by rw [← HN.out.1]; exact hn) hb8w hy).mono ?_)
        rintro e w5 ⟨y, rfl, hown, hb9, htk⟩
        have HO := Lib.hid hown
        clear hown htk hy
        go_wp2_with fail
        refine hK.out _ _ hb9 (fun hHeld => ?_)
        clear hK K
        (try simp only [Act.put, List.setIfInBounds_toArray, List.set_cons_zero, List.set_cons_succ])
        refine takeU (i := 9) (v := ?v10) rfl (by kernel_rfl) (by kernel_rfl) (by kernel_rfl) (fun _ _ _ h => h) (Or.inl ⟨by rfl, ?h10⟩) (by assumption) ?r10
        case h10 => (intro X hSw; have cc := (hSw.cell (p := ⟨w.heap.size + 2, 1, none⟩) (by show w.heap.size + 2 < wC.heap.size; omega)).trans c1; go_simp <;> with_reducible rfl)
        (try simp only [Act.put, List.setIfInBounds_toArray, List.set_cons_zero, List.set_cons_succ])
        refine takeU (i := 10) (v := ?v11) rfl (by kernel_rfl) (by kernel_rfl) (by kernel_rfl) (fun _ _ _ h => h) (Or.inl ⟨by rfl, ?h11⟩) (by assumption) ?r11
        case h11 => (intro X hSw; have cc := (hSw.cell (p := ⟨w.heap.size + 2, 1, none⟩) (by show w.heap.size + 2 < wC.heap.size; omega)).trans c1; go_simp <;> with_reducible rfl)
        (try simp only [Act.put, List.setIfInBounds_toArray, List.set_cons_zero, List.set_cons_succ])
        refine takeU (i := 11) (v := ?v12) rfl (by kernel_rfl) (by kernel_rfl) (by kernel_rfl) (fun _ _ _ h => h) (Or.inl ⟨by rfl, ?h12⟩) (by assumption) ?r12
        case h12 => (intro X hSw; have cc := (hSw.cell (p := ⟨w.heap.size + 2, 1, none⟩) (by show w.heap.size + 2 < wC.heap.size; omega)).trans c1; go_simp <;> with_reducible rfl)
        (try simp only [Act.put, List.setIfInBounds_toArray, List.set_cons_zero, List.set_cons_succ])
        refine wpAnyH_ready (rs := [12]) (by kernel_rfl) (by simp) ?_
        refine consU rfl (fun K hK => ?_) AllReadyH.nil
        · go_simp
          have hb13 := hb9.alloc hb9.size (.cells #[.string ⟨#[]⟩, .float .f64 0, .string ⟨#[]⟩, .slice none 0 0, .slice none 0 0, .bool false, .string ⟨#[]⟩, .int .u8 0, .pointer none, .pointer none] 58)
          refine hK.out _ _ hb13 (fun hHeld => ?_)
          clear hK K
          (try simp only [Act.put, List.setIfInBounds_toArray, List.set_cons_zero, List.set_cons_succ])
          refine takeU (i := 13) (v := ?v14) rfl (by kernel_rfl) (by kernel_rfl) (by kernel_rfl) (fun _ _ _ h => h) (Or.inl ⟨by rfl, ?h14⟩) (by assumption) ?r14
          case h14 => (intro X hSw; have cc := (hSw.cell (p := ⟨w.heap.size + 2, 1, none⟩) (by show w.heap.size + 2 < wC.heap.size; omega)).trans c1; go_simp <;> with_reducible rfl)
          (try simp only [Act.put, List.setIfInBounds_toArray, List.set_cons_zero, List.set_cons_succ])
          refine wpAnyH_ready (rs := [14]) (by kernel_rfl) (by simp) ?_
          refine consU rfl (fun K hK => ?_) AllReadyH.nil
          go_simp
          refine hK.out _ _ (hb9.alloc hb9.size _) (fun hHeld => ?_)
          clear hK K
          (try simp only [Act.put, List.setIfInBounds_toArray, List.set_cons_zero, List.set_cons_succ])
          refine wpAnyH_done (by kernel_rfl) ?_ _
          go_wp2_with fail
          go_meet
          case rel => exact ⟨rfl, _, rfl, hHeld, HO.out.below ((Below.refl _ _).alloc (Nat.le_refl _) _), hb9.size, Blk.new _ _ _⟩
      · go_simp
        have hb15 := hb8.alloc hb8.size (.cells #[.string ⟨#[]⟩, .float .f64 0, .string ⟨#[]⟩, .slice none 0 0, .slice none 0 0, .bool false, .string ⟨#[]⟩, .int .u8 0, .pointer none, .pointer none] 58)
        refine hK.out _ _ hb15 (fun hHeld => ?_)
        clear hK K
        (try simp only [Act.put, List.setIfInBounds_toArray, List.set_cons_zero, List.set_cons_succ])
        refine wpAnyH_ready (rs := [8]) (by kernel_rfl) (by simp) ?_
        refine consU rfl (fun K hK => ?_) AllReadyH.nil
        · go_simp
          have hy := own_empty wC wC.heap.size (Nat.le_refl _)
          have hy := hy.below ((Below.refl _ _).alloc (Nat.le_refl _) (.cells #[.string ⟨#[]⟩, .float .f64 0, .string ⟨#[]⟩, .slice none 0 0, .slice none 0 0, .bool false, .string ⟨#[]⟩, .int .u8 0, .pointer none, .pointer none] 58))
          rw [show (⟨wC.heap.size, 0, none⟩ : Addr) = ⟨w.heap.size + 3, 0, none⟩ from by rw [hsC]] at hy
          have hy : Owns ((wC.alloc (.cells #[] 9)).alloc (.cells #[.string ⟨#[]⟩, .float .f64 0, .string ⟨#[]⟩, .slice none 0 0, .slice none 0 0, .bool false, .string ⟨#[]⟩, .int .u8 0, .pointer none, .pointer none] 58)).drew wC.heap.size 9 1 (.slice (some ⟨w.heap.size + 3, 0, none⟩) 0 0) [] := hy
          have hb15w : Below wC.heap.size wC ((wC.alloc (.cells #[] 9)).alloc (.cells #[.string ⟨#[]⟩, .float .f64 0, .string ⟨#[]⟩, .slice none 0 0, .slice none 0 0, .bool false, .string ⟨#[]⟩, .int .u8 0, .pointer none, .pointer none] 58)).drew := hb15
          (with_reducible refine (textJoin_any LB es (faces preG) L _ wC ((wC.alloc (.cells #[] 9)).alloc (.cells #[.string ⟨#[]⟩, .float .f64 0, .string ⟨#[]⟩, .slice none 0 0, .slice none 0 0, .bool false, .string ⟨#[]⟩, .int .u8 0, .pointer none, .pointer none] 58)).drew HLC.out.1 rfl (by rw [← HN.out.1]; exact hn0) (by rw [← HN.out.1]; exact hn) hb15w hy).mono ?_)
          rintro e w5 ⟨y, rfl, hown, hb16, htk⟩
          have hbo := Blk.new (wC.alloc (.cells #[] 9)) 58 #[.string ⟨#[]⟩, .float .f64 0, .string ⟨#[]⟩, .slice none 0 0, .slice none 0 0, .bool false, .string ⟨#[]⟩, .int .u8 0, .pointer none, .pointer none]
          rw [show (wC.alloc (.cells #[] 9)).heap.size = w.heap.size + 4 from by simp [hsC]] at hbo
          have hbo : Blk ((wC.alloc (.cells #[] 9)).alloc (.cells #[.string ⟨#[]⟩, .float .f64 0, .string ⟨#[]⟩, .slice none 0 0, .slice none 0 0, .bool false, .string ⟨#[]⟩, .int .u8 0, .pointer none, .pointer none] 58)).drew (w.heap.size + 4) 58 #[.string ⟨#[]⟩, .float .f64 0, .string ⟨#[]⟩, .slice none 0 0, .slice none 0 0, .bool false, .string ⟨#[]⟩, .int .u8 0, .pointer none, .pointer none] := hbo
          have hbo5 := htk _ _ _ (by decide) hbo
          clear hbo
          have HO := Lib.hid hown
          clear hown htk hy
          go_wp2_with fail
          refine hK.out _ _ hb16 (fun hHeld => ?_)
          clear hK K
          (try simp only [Act.put, List.setIfInBounds_toArray, List.set_cons_zero, List.set_cons_succ])
          refine takeU (i := 9) (v := ?v17) rfl (by kernel_rfl) (by kernel_rfl) (by kernel_rfl) (fun _ _ _ h => h) (Or.inl ⟨by rfl, ?h17⟩) (by assumption) ?r17
          case h17 => (intro X hSw; have cc := (hSw.cell (p := ⟨w.heap.size + 2, 1, none⟩) (by show w.heap.size + 2 < wC.heap.size; omega)).trans c1; go_simp <;> with_reducible rfl)
          (try simp only [Act.put, List.setIfInBounds_toArray, List.set_cons_zero, List.set_cons_succ])
          refine takeU (i := 10) (v := ?v18) rfl (by kernel_rfl) (by kernel_rfl) (by kernel_rfl) (fun _ _ _ h => h) (Or.inl ⟨by rfl, ?h18⟩) (by assumption) ?r18
          case h18 => (intro X hSw; have cc := (hSw.cell (p := ⟨w.heap.size + 2, 1, none⟩) (by show w.heap.size + 2 < wC.heap.size; omega)).trans c1; go_simp <;> with_reducible rfl)
          (try simp only [Act.put, List.setIfInBounds_toArray, List.set_cons_zero, List.set_cons_succ])
          refine takeU (i := 11) (v := ?v19) rfl (by kernel_rfl) (by kernel_rfl) (by kernel_rfl) (fun _ _ _ h => h) (Or.inl ⟨by rfl, ?h19⟩) (by assumption) ?r19
          case h19 => (intro X hSw; have cc := (hSw.cell (p := ⟨w.heap.size + 2, 1, none⟩) (by show w.heap.size + 2 < wC.heap.size; omega)).trans c1; go_simp <;> with_reducible rfl)
          (try simp only [Act.put, List.setIfInBounds_toArray, List.set_cons_zero, List.set_cons_succ])
          refine takeU (i := 13) (v := ?v20) rfl (by kernel_rfl) (by kernel_rfl) (by kernel_rfl) (fun _ _ _ h => h) (Or.inl ⟨by rfl, ?h20⟩) (by assumption) ?r20
          case h20 => (intro X hSw; have cc := (hSw.cell (p := ⟨w.heap.size + 2, 1, none⟩) (by show w.heap.size + 2 < wC.heap.size; omega)).trans c1; go_simp <;> with_reducible rfl)
          (try simp only [Act.put, List.setIfInBounds_toArray, List.set_cons_zero, List.set_cons_succ])
          refine wpAnyH_ready (rs := [14]) (by kernel_rfl) (by simp) ?_
          refine consU rfl (fun K hK => ?_) AllReadyH.nil
          have zl := hbo5.lt
          have z0 : w5.cell? ⟨w.heap.size + 4, 0, none⟩ = some (.string ⟨#[]⟩) := hbo5.cell 0
          have z1 : w5.cell? ⟨w.heap.size + 4, 1, none⟩ = some (.float .f64 0) := hbo5.cell 1
          have z2 : w5.cell? ⟨w.heap.size + 4, 2, none⟩ = some (.string ⟨#[]⟩) := hbo5.cell 2
          have z3 : w5.cell? ⟨w.heap.size + 4, 3, none⟩ = some (.slice none 0 0) := hbo5.cell 3
          have z4 : w5.cell? ⟨w.heap.size + 4, 4, none⟩ = some (.slice none 0 0) := hbo5.cell 4
          have z5 : w5.cell? ⟨w.heap.size + 4, 5, none⟩ = some (.bool false) := hbo5.cell 5
          have z6 : w5.cell? ⟨w.heap.size + 4, 6, none⟩ = some (.string ⟨#[]⟩) := hbo5.cell 6
          have z7 : w5.cell? ⟨w.heap.size + 4, 7, none⟩ = some (.int .u8 0) := hbo5.cell 7
          have z8 : w5.cell? ⟨w.heap.size + 4, 8, none⟩ = some (.pointer none) := hbo5.cell 8
          have z9 : w5.cell? ⟨w.heap.size + 4, 9, none⟩ = some (.pointer none) := hbo5.cell 9
          have zf : ∀ o, w5.frozen? ⟨w.heap.size + 4, o, none⟩ = false := fun o => hbo5.free o
          have HZ := Lib.hid hbo5
          clear hbo5
          go_simp
          refine hK.out _ _ (belowT hb16 (by rw [hsC]; omega)) (fun hHeld => ?_)
          clear hK K
          (try simp only [Act.put, List.setIfInBounds_toArray, List.set_cons_zero, List.set_cons_succ])
          refine wpAnyH_done (by kernel_rfl) ?_ _
          go_wp2_with fail
          go_meet
          case rel => exact ⟨rfl, _, rfl, hHeld, HO.out.putT (own_ne HO.out HZ.out), by rw [hsC]; omega, HZ.out.putT _ _ _ _ _ _ _ _ _ _⟩
    · go_simp
      have hb21 := hb0.alloc hb0.size (.cells #[.string ⟨#[]⟩, .float .f64 0, .string ⟨#[]⟩, .slice none 0 0, .slice none 0 0, .bool false, .string ⟨#[]⟩, .int .u8 0, .pointer none, .pointer none] 58)
      refine hK.out _ _ hb21 (fun hHeld => ?_)
      clear hK K
      (try simp only [Act.put, List.setIfInBounds_toArray, List.set_cons_zero, List.set_cons_succ])
      refine wpAnyH_ready (rs := [4]) (by kernel_rfl) (by simp) ?_
      refine consU rfl (fun K hK => ?_) AllReadyH.nil
      · go_simp
        have hb22 := hb21.alloc hb21.size (.cells #[] 9)
        refine hK.out _ _ hb22 (fun hHeld => ?_)
        clear hK K
        (try simp only [Act.put, List.setIfInBounds_toArray, List.set_cons_zero, List.set_cons_succ])
        refine wpAnyH_ready (rs := [8]) (by kernel_rfl) (by simp) ?_
        refine consU rfl (fun K hK => ?_) AllReadyH.nil
        · go_simp
          have hy := own_empty (wC.alloc (.cells #[.string ⟨#[]⟩, .float .f64 0, .string ⟨#[]⟩, .slice none 0 0, .slice none 0 0, .bool false, .string ⟨#[]⟩, .int .u8 0, .pointer none, .pointer none] 58)) wC.heap.size (by rw [World.size_alloc]; omega)
          rw [World.size_alloc] at hy
          rw [show (⟨wC.heap.size + 1, 0, none⟩ : Addr) = ⟨w.heap.size + 4, 0, none⟩ from by rw [hsC]] at hy
          have hy : Owns ((wC.alloc (.cells #[.string ⟨#[]⟩, .float .f64 0, .string ⟨#[]⟩, .slice none 0 0, .slice none 0 0, .bool false, .string ⟨#[]⟩, .int .u8 0, .pointer none, .pointer none] 58)).alloc (.cells #[] 9)).drew wC.heap.size 9 1 (.slice (some ⟨w.heap.size + 4, 0, none⟩) 0 0) [] := hy
          have hb22w : Below wC.heap.size wC ((wC.alloc (.cells #[.string ⟨#[]⟩, .float .f64 0, .string ⟨#[]⟩, .slice none 0 0, .slice none 0 0, .bool false, .string ⟨#[]⟩, .int .u8 0, .pointer none, .pointer none] 58)).alloc (.cells #[] 9)).drew := hb22
          (with_reducible refine (textJoin_any LB es (faces preG) L _ wC ((wC.alloc (.cells #[.string ⟨#[]⟩, .float .f64 0, .string ⟨#[]⟩, .slice none 0 0, .slice none 0 0, .bool false, .string ⟨#[]⟩, .int .u8 0, .pointer none, .pointer none] 58)).alloc (.cells #[] 9)).drew HLC.out.1 rfl (by rw [← HN.out.1]; exact hn0) (by rw [← HN.out.1]; exact hn) hb22w hy).mono ?_)
          rintro e w5 ⟨y, rfl, hown, hb23, htk⟩
          have hbo := (Blk.new wC 58 #[.string ⟨#[]⟩, .float .f64 0, .string ⟨#[]⟩, .slice none 0 0, .slice none 0 0, .bool false, .string ⟨#[]⟩, .int .u8 0, .pointer none, .pointer none]).alloc (.cells #[] 9)
          rw [show wC.heap.size = w.heap.size + 3 from by simp [hsC]] at hbo
          have hbo : Blk ((wC.alloc (.cells #[.string ⟨#[]⟩, .float .f64 0, .string ⟨#[]⟩, .slice none 0 0, .slice none 0 0, .bool false, .string ⟨#[]⟩, .int .u8 0, .pointer none, .pointer none] 58)).alloc (.cells #[] 9)).drew (w.heap.size + 3) 58 #[.string ⟨#[]⟩, .float .f64 0, .string ⟨#[]⟩, .slice none 0 0, .slice none 0 0, .bool false, .string ⟨#[]⟩, .int .u8 0, .pointer none, .pointer none] := hbo
          have hbo5 := htk _ _ _ (by decide) hbo
          clear hbo
          have HO := Lib.hid hown
          clear hown htk hy
          go_wp2_with fail
          refine hK.out _ _ hb23 (fun hHeld => ?_)
          clear hK K
          (try simp only [Act.put, List.setIfInBounds_toArray, List.set_cons_zero, List.set_cons_succ])
          refine takeU (i := 9) (v := ?v24) rfl (by kernel_rfl) (by kernel_rfl) (by kernel_rfl) (fun _ _ _ h => h) (Or.inl ⟨by rfl, ?h24⟩) (by assumption) ?r24
          case h24 => (intro X hSw; have cc := (hSw.cell (p := ⟨w.heap.size + 2, 1, none⟩) (by show w.heap.size + 2 < wC.heap.size; omega)).trans c1; go_simp <;> with_reducible rfl)
          (try simp only [Act.put, List.setIfInBounds_toArray, List.set_cons_zero, List.set_cons_succ])
          refine takeU (i := 10) (v := ?v25) rfl (by kernel_rfl) (by kernel_rfl) (by kernel_rfl) (fun _ _ _ h => h) (Or.inl ⟨by rfl, ?h25⟩) (by assumption) ?r25
          case h25 => (intro X hSw; have cc := (hSw.cell (p := ⟨w.heap.size + 2, 1, none⟩) (by show w.heap.size + 2 < wC.heap.size; omega)).trans c1; go_simp <;> with_reducible rfl)
          (try simp only [Act.put, List.setIfInBounds_toArray, List.set_cons_zero, List.set_cons_succ])
          refine takeU (i := 11) (v := ?v26) rfl (by kernel_rfl) (by kernel_rfl) (by kernel_rfl) (fun _ _ _ h => h) (Or.inl ⟨by rfl, ?h26⟩) (by assumption) ?r26
          case h26 => (intro X hSw; have cc := (hSw.cell (p := ⟨w.heap.size + 2, 1, none⟩) (by show w.heap.size + 2 < wC.heap.size; omega)).trans c1; go_simp <;> with_reducible rfl)
          (try simp only [Act.put, List.setIfInBounds_toArray, List.set_cons_zero, List.set_cons_succ])
          refine takeU (i := 13) (v := ?v27) rfl (by kernel_rfl) (by kernel_rfl) (by kernel_rfl) (fun _ _ _ h => h) (Or.inl ⟨by rfl, ?h27⟩) (by assumption) ?r27
          case h27 => (intro X hSw; have cc := (hSw.cell (p := ⟨w.heap.size + 2, 1, none⟩) (by show w.heap.size + 2 < wC.heap.size; omega)).trans c1; go_simp <;> with_reducible rfl)
          (try simp only [Act.put, List.setIfInBounds_toArray, List.set_cons_zero, List.set_cons_succ])
          refine wpAnyH_ready (rs := [14]) (by kernel_rfl) (by simp) ?_
          refine consU rfl (fun K hK => ?_) AllReadyH.nil
          have zl := hbo5.lt
          have z0 : w5.cell? ⟨w.heap.size + 3, 0, none⟩ = some (.string ⟨#[]⟩) := hbo5.cell 0
          have z1 : w5.cell? ⟨w.heap.size + 3, 1, none⟩ = some (.float .f64 0) := hbo5.cell 1
          have z2 : w5.cell? ⟨w.heap.size + 3, 2, none⟩ = some (.string ⟨#[]⟩) := hbo5.cell 2
          have z3 : w5.cell? ⟨w.heap.size + 3, 3, none⟩ = some (.slice none 0 0) := hbo5.cell 3
          have z4 : w5.cell? ⟨w.heap.size + 3, 4, none⟩ = some (.slice none 0 0) := hbo5.cell 4
          have z5 : w5.cell? ⟨w.heap.size + 3, 5, none⟩ = some (.bool false) := hbo5.cell 5
          have z6 : w5.cell? ⟨w.heap.size + 3, 6, none⟩ = some (.string ⟨#[]⟩) := hbo5.cell 6
          have z7 : w5.cell? ⟨w.heap.size + 3, 7, none⟩ = some (.int .u8 0) := hbo5.cell 7
          have z8 : w5.cell? ⟨w.heap.size + 3, 8, none⟩ = some (.pointer none) := hbo5.cell 8
          have z9 : w5.cell? ⟨w.heap.size + 3, 9, none⟩ = some (.pointer none) := hbo5.cell 9
          have zf : ∀ o, w5.frozen? ⟨w.heap.size + 3, o, none⟩ = false := fun o => hbo5.free o
          have HZ := Lib.hid hbo5
          clear hbo5
          go_simp
          refine hK.out _ _ (belowT hb23 (by rw [hsC]; omega)) (fun hHeld => ?_)
          clear hK K
          (try simp only [Act.put, List.setIfInBounds_toArray, List.set_cons_zero, List.set_cons_succ])
          refine wpAnyH_done (by kernel_rfl) ?_ _
          go_wp2_with fail
          go_meet
          case rel => exact ⟨rfl, _, rfl, hHeld, HO.out.putT (own_ne HO.out HZ.out), by rw [hsC]; omega, HZ.out.putT _ _ _ _ _ _ _ _ _ _⟩
  case rest =>
    obtain ⟨rfl, B8, rfl, hbc, hown, hB8, hblk8⟩ := hcut
    have hbA := HL.out.2.1.trans (HLC.out.2.2.2.mono HL.out.2.1.size)
    have hbW := hbA.trans (hbc.mono hbA.size)
    have hbl0 := HL.out.2.2.1.below (HLC.out.2.2.2.trans (hbc.mono HLC.out.2.2.2.size)) HL.out.2.2.1.lt
    have hbd := HLC.out.2.1.below hbc HLC.out.2.1.lt
    obtain ⟨oL, oF, o0, o1, o2, o3, o4, o5, o6, o7, o8, o9⟩ := cells10 hblk8
    obtain ⟨dL, dF, d0, d1, d2, d3, d4, d5, d6, d7, d8, d9⟩ := cells10 hbd
    have hcl := cat_len L HN.out.2.2.2.1
    rw [← HN.out.1] at hcl
    have HJ := Lib.hid (And.intro (join_kept L) (And.intro (kept_len L) (cat_ascii L HN.out.2.2.2.2.1)))
    obtain ⟨T, hT⟩ : ∃ T : ByteArray, T = ⟨(cat L).toArray⟩ := ⟨_, rfl⟩
    have hTs : T.size = (cat L).length := by rw [hT]; exact List.size_toArray ..
    have hTi : ¬ ((32767 : Int) < (T.size : Int)) := by omega
    have HT := Lib.hid (And.intro hT (And.intro hTs hcl))
    have HW := Lib.hid (And.intro hbW (And.intro hbl0 (And.intro hown hbc)))
    clear hbW hbl0 hown hbd hblk8 hbA hbc hT hTs hcl hB8
    go_wp2_with fail
    (with_reducible refine (value_text ⟨#[]⟩ _).mono ?_)
    rintro e w6 ⟨rfl, hb6⟩
    have HW6 := Lib.hid (And.intro (HW.out.1.trans (hb6.mono HW.out.1.size)) (And.intro (HW.out.2.1.below hb6 HW.out.2.1.lt) (HW.out.2.2.1.below hb6)))
    clear hb6
    go_wp2_with fail
    (with_reducible refine (join_owned u7 (kept L) ⟨#[]⟩ wC.heap.size _ HW6.out.2.2 (by have := HJ.out.2.1; have := HN.out.1; omega) (by show (Lib.join _ []).length ≤ _; rw [HJ.out.1]; have := HT.out.2.2; omega)).mono ?_)
    rintro e w7 ⟨rfl, hb7⟩
    rw [show (⟨(Lib.join ((kept L).map (·.data.toList)) ((⟨#[]⟩ : ByteArray).data.toList)).toArray⟩ : ByteArray) = T from by show (⟨(Lib.join ((kept L).map (·.data.toList)) []).toArray⟩ : ByteArray) = T; rw [HJ.out.1, HT.out.1]]
    have HW7 := Lib.hid (And.intro (HW6.out.1.trans (hb7.mono HW6.out.1.size)) (HW6.out.2.1.below hb7 HW6.out.2.1.lt))
    clear hb7
    go_wp2_with fail
    (with_reducible refine (count16_any T _ (by rw [HT.out.1]; exact HJ.out.2.2) (by have := HT.out.2.1; have := HT.out.2.2; omega)).mono ?_)
    rintro e w8 ⟨rfl, hb8⟩
    have HW8 := Lib.hid (And.intro (HW7.out.1.trans (hb8.mono HW7.out.1.size)) (HW7.out.2.below hb8 HW7.out.2.lt))
    clear hb8
    go_wp2_with fail
    (with_reducible refine (newString_any T _).mono ?_)
    rintro e w9 ⟨rfl, hb9⟩
    have HW9 := Lib.hid (HW8.out.1.trans (hb9.mono HW8.out.1.size))
    obtain ⟨zL, zF, z0, z1, z2, z3, z4, z5, z6, z7, z8, z9⟩ := cells10 (HW8.out.2.below hb9 HW8.out.2.lt)
    clear hb9
    go_wp2
    exact bodyPost_ret (v := (.agg #[.string ⟨#[]⟩, .float .f64 0, .string T, .slice none 0 0, .slice none 0 0, .bool false, .string ⟨#[]⟩, .int .u8 2, .pointer none, .pointer none])) (by simp [results, Tryz.results30, go_sem, zL, z0, z1, z2, z3, z4, z5, z6, z7, z8, z9, zF]) rfl ⟨by rw [HT.out.1], belowT HW9.out (Nat.le_refl _)⟩

end Go.Proofs.YtdpkjhohklfieaaGreatDoor
