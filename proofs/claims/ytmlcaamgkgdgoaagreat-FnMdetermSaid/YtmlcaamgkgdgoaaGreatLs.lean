/- Walking along a list (container/list); COUNTA in the package; a range with single cells besides. -/
import Derived.Test.YtmlcaamgkgdgoaaGreatLa
import Derived.Deep.LoopGhost
import Derived.Lib.Builder
set_option linter.unusedSimpArgs false
set_option linter.unusedVariables false
namespace Go.Proofs.YtmlcaamgkgdgoaaGreat
open Go.RowKit
set_option maxRecDepth 100000
set_option maxHeartbeats 1000000

/-- The pointer to element i, or nil behind the last one. -/
def elemPtr (es : List Nat) (i : Nat) : Value := match es[i]? with | some b => .pointer (some ⟨b, 0, none⟩) | none => .pointer none
theorem elemPtr_some {es : List Nat} {i b : Nat} (h : es[i]? = some b) : elemPtr es i = .pointer (some ⟨b, 0, none⟩) := by unfold elemPtr; rw [h]
theorem elemPtr_none {es : List Nat} {i : Nat} (h : es.length ≤ i) : elemPtr es i = .pointer none := by unfold elemPtr; rw [List.getElem?_eq_none h]

theorem neq_ptr_other {P : Program} (w : World) {tp te : TypeId} {j : TypeInfo} {a b : Addr} {ca cb : Array Value} {ta tb : TypeId} (hp : P.underlying tp = some (.pointer te)) (hte : P.info? te = some j) (hsz : j.size ≠ 0)
    (hne : a ≠ b) (ha : w.heap[a.block]? = some (.cells ca ta (0, 0))) (hb : w.heap[b.block]? = some (.cells cb tb (0, 0))) :
    (binOp .neq tp (.pointer (some a)) (.pointer (some b))).run P w = .ok (.bool true) w := by
  have h : ∀ d : Nat, (Op.equalIn (d + 1) tp (.pointer (some a)) (.pointer (some b))).run P w = .ok false w := fun d => by
    simp [Op.equalIn, run_underlying hp, sizeOf, typeInfo, hte, hsz, run_sameAddr_other w hne ha hb]
  simp only [binOp]
  simp [Op.equal, Op.maxDepth, h 9999]
theorem infoE : (Tryz.prog.info? 96).map (fun j => j.size) = some 4 := by kernel_rfl
theorem infoE' : ∃ j, Tryz.prog.info? 96 = some j ∧ j.size ≠ 0 := by
  have h := infoE
  cases hh : Tryz.prog.info? 96 with
  | none => rw [hh] at h; cases h
  | some j => rw [hh] at h; injection h with h; exact ⟨j, rfl, by have h' : j.size = 4 := h; rw [h']; decide⟩

theorem next_any (LB : Nat) (es : List Nat) (vs : List Value) (i b : Nat) (w : World) (h : IsList w LB es vs) (hi : es[i]? = some b) :
    Calls Tryz.prog 83 #[.pointer (some ⟨b, 0, none⟩)] w fun e w' => e = .returned (elemPtr es (i + 1)) ∧ w = w' := by
  obtain ⟨v, hv⟩ := h.val i b hi
  obtain ⟨q, hq⟩ := h.node i b v hi hv
  have e2 : w.cell? ⟨b, 2, none⟩ = some (.pointer (some ⟨LB, 0, none⟩)) := hq.cell 2
  by_cases hlt : i + 1 < es.length
  · obtain ⟨b', hb'⟩ : ∃ b', es[i + 1]? = some b' := ⟨_, List.getElem?_eq_getElem hlt⟩
    have e0 : w.cell? ⟨b, 0, none⟩ = some (.pointer (some ⟨b', 0, none⟩)) := by
      rw [hq.cell 0, List.getD_eq_getElem?_getD, hb']; rfl
    have hne : b' ≠ LB := (h.ne b' (List.mem_of_getElem? hb')).symm
    obtain ⟨v', hv'⟩ := h.val _ b' hb'
    obtain ⟨q', hq'⟩ := h.node _ b' v' hb' hv'
    obtain ⟨j, hj, hj0⟩ := infoE'
    have qO := neq_ptr_other (P := Tryz.prog) w (a := ⟨b', 0, none⟩) (b := ⟨LB, 0, none⟩) Tryz.underlying94 hj hj0 (by intro hh; injection hh with hh; exact hne hh) hq' h.root
    rw [elemPtr_some hb']
    clear hq hb' hi hv h hq' hv'
    go_enter Tryz.func83, Tryz.ntmps83
    go_wp2
    go_ret
    exact ⟨rfl, rfl⟩
  · have e0 : w.cell? ⟨b, 0, none⟩ = some (.pointer (some ⟨LB, 0, none⟩)) := by
      rw [hq.cell 0, List.getD_eq_getElem?_getD, List.getElem?_eq_none (by omega)]; rfl
    rw [elemPtr_none (by omega)]
    obtain ⟨j, hj, hj0⟩ := infoE'
    have qO := Lib.run_neq_ptr_same (P := Tryz.prog) w (⟨LB, 0, none⟩ : Addr) Tryz.underlying94 hj
    clear hq hi hv h
    go_enter Tryz.func83, Tryz.ntmps83
    go_wp2
    go_ret
    exact ⟨rfl, rfl⟩

theorem front_list (LB : Nat) (es : List Nat) (vs : List Value) (w : World) (h : IsList w LB es vs) (hn : es ≠ []) :
    Calls Tryz.prog 77 #[.pointer (some ⟨LB, 0, none⟩)] w fun e w' => e = .returned (elemPtr es 0) ∧ w = w' := by
  obtain ⟨b, r, rfl⟩ := List.exists_cons_of_ne_nil hn
  exact front_any LB b _ w (by rw [h.root.cell]; rfl) (h.root.cell 4) (by simp; omega)

/-- How many are counted of an argument. -/
def cT (g : Gl) : Bool := tyOf g == 2 || tyOf g == 1
def cA (m : Mg) : Nat := if m.g.k = 5 then (m.rows.flatten.filter cT).length else if cT m.g then 1 else 0
def cS (M : List Mg) : Nat := (M.map cA).sum
theorem cS_snoc (M : List Mg) (k : Nat) (m : Mg) (h : M[k]? = some m) : cS (M.take (k + 1)) = cS (M.take k) + cA m := by
  unfold cS
  rw [List.take_add_one, h]
  simp
def cR (gs : List Gl) : Nat := (gs.filter cT).length
theorem cR_snoc (gs : List Gl) (k : Nat) (g : Gl) (h : gs[k]? = some g) : cR (gs.take (k + 1)) = cR (gs.take k) + (if cT g then 1 else 0) := by
  unfold cR
  rw [List.take_add_one, h]
  simp only [Option.toList, List.filter_append, List.length_append]
  cases hx : cT g <;> simp [hx]
theorem cR_le (gs : List Gl) : cR gs ≤ gs.length := List.length_filter_le _ _

def CsAt (M : List Mg) (k : Nat) (v : Value) : Prop := ∃ C : Nat, v = .int .i64 C ∧ C = cS (M.take k) ∧ C ≤ 1000 * k
def CrAt (C : Nat) (gs : List Gl) (q : Nat) (v : Value) : Prop := ∃ D : Nat, v = .int .i64 D ∧ D = C + cR (gs.take q) ∧ D ≤ C + q

set_option maxHeartbeats 4000000 in
theorem ff_COUNTA (p : Addr) (LB : Nat) (M : List Mg) (w : World) (h : ListOut w LB M) (h0 : M ≠ []) (hl : M.length ≤ 1000) (hok : ∀ m ∈ M, m.rows.length ≤ 1000 ∧ m.rows.flatten.length ≤ 1000) :
    Calls Tryz.prog 58 #[.pointer (some p), .pointer (some ⟨LB, 0, none⟩)] w (NumPost (fun z => Fl.Is z (cS M)) w) := by
  obtain ⟨es, G, hlist, hall⟩ := h
  obtain ⟨n, hn⟩ : ∃ n, n = M.length := ⟨_, rfl⟩
  have hel : es.length = n := by rw [hlist.len, facesF, List.length_map, hall.1, hn]
  have hne : es ≠ [] := by intro h; rw [h] at hel; rw [← hel] at hn; exact h0 (List.eq_nil_of_length_eq_zero hn.symm)
  have hnl : n ≤ 1000 := by omega
  have HN := Lib.hid (And.intro hn (And.intro hel hne))
  have HO := Lib.hid hok
  have Z0 := Lib.hid (Zero10.new w)
  have hbA : Below w.heap.size w (w.alloc (.cells #[.string ⟨#[]⟩, .float .f64 0, .string ⟨#[]⟩, .slice none 0 0, .slice none 0 0, .bool false, .string ⟨#[]⟩, .int .u8 0, .pointer none, .pointer none] 76)) := (Below.refl _ _).alloc (Nat.le_refl _) _
  have HL := Lib.hid (And.intro (hlist.below hbA) (And.intro ((hall.keep (Keep.below hbA fun _ hk => hk)).more fun q hq => Nat.lt_of_lt_of_le hq hbA.size) hbA))
  clear hn hel hne hl hlist hall hok h0 hbA
  go_enter Tryz.func58, Tryz.ntmps58
  go_wp2_with fail
  refine (front_list LB es _ _ HL.out.1 HN.out.2.2).mono ?_
  rintro e w1 ⟨rfl, rfl⟩
  obtain ⟨W, hW⟩ : ∃ W, W = w.alloc (.cells #[.string ⟨#[]⟩, .float .f64 0, .string ⟨#[]⟩, .slice none 0 0, .slice none 0 0, .bool false, .string ⟨#[]⟩, .int .u8 0, .pointer none, .pointer none] 76) := ⟨_, rfl⟩
  rw [← hW] at HL Z0 ⊢
  clear hW
  go_wp2_with fail
  go_loopg [5, 6] n (fun gf v i wr => ∃ k : Nat, k + gf = n ∧ i = elemPtr es k ∧ Below W.heap.size W wr ∧ CsAt M k v) 
  case atStart => exact ⟨0, by omega, rfl, Below.refl _ _, 0, rfl, rfl, Nat.zero_le _⟩
  case round =>
    obtain ⟨k, hk, rfl, hbe, C, rfl, hC, hCl⟩ := hrel
    have HC := Lib.hid hC
    clear hC
    by_cases hlt : k < n
    · obtain ⟨g', rfl⟩ : ∃ g', gk = g' + 1 := ⟨gk - 1, by omega⟩
      obtain ⟨m, hm⟩ : ∃ m, M[k]? = some m := ⟨_, List.getElem?_eq_getElem (by rw [← HN.out.1]; exact hlt)⟩
      obtain ⟨b, hb⟩ : ∃ b, es[k]? = some b := ⟨_, List.getElem?_eq_getElem (by rw [HN.out.2.1]; exact hlt)⟩
      obtain ⟨f, hf⟩ : ∃ f, G[k]? = some f := ⟨_, List.getElem?_eq_getElem (by rw [HL.out.2.1.1, ← HN.out.1]; exact hlt)⟩
      have hl2 := HL.out.1.below hbe
      obtain ⟨q, hq⟩ := hl2.node k b (.iface 76 f) hb (by simp [facesF, hf])
      have e3 : wr.cell? ⟨b, 3, none⟩ = some (.iface 76 f) := hq.cell 3
      have hblt : b < wr.heap.size := hq.lt
      have hFI : FIs wr (· < wr.heap.size) f m := KF.more (KF.keep (HL.out.2.1.2 k f m hf hm) (Keep.below hbe fun _ hk => hk)) fun _ hk => Nat.lt_of_lt_of_le hk hbe.size
      have hstep := cS_snoc M k m hm
      have HS := Lib.hid (And.intro hstep (And.intro hb (HO.out m (List.mem_of_getElem? hm))))
      have HL2 := Lib.hid hl2
      rw [elemPtr_some hb]
      have hsz := hbe.size
      clear hm hb hf hq hstep hl2
      obtain ⟨h5, hr, rfl⟩ | ⟨h5, A, c, P, Q, rfl, h1, _, _⟩ := hFI
      · obtain ⟨x, s, bo, er, hin, _⟩ := m.g.form10t
        rw [hin] at e3
        have HG := Lib.hid h5
        have hty : tyOf m.g = 1 ∨ tyOf m.g = 2 ∨ tyOf m.g = 5 ∨ tyOf m.g = 6 := by
          unfold tyOf
          split
          · exact .inl rfl
          · split
            · exact .inr (.inl rfl)
            · split
              · exact .inl rfl
              · split
                · exact .inr (.inr (.inl rfl))
                · exact .inr (.inr (.inr rfl))
        clear h5 hr hin
        obtain ⟨ty, hte⟩ : ∃ ty, ty = tyOf m.g := ⟨_, rfl⟩
        rw [← hte] at e3 hty
        have HT := Lib.hid hte
        clear hte
        rcases hty with rfl | rfl | rfl | rfl
        · have hcs : C + 1 = cS (M.take (k + 1)) := by
            rw [HS.out.1, ← HC.out]
            unfold cA cT
            rw [if_neg HG.out, ← HT.out]
            rfl
          have HCS := Lib.hid hcs
          clear hcs
          go_wp2_with fail
          refine (next_any LB es _ k b _ (HL2.out.below ((Below.refl _ _).alloc (Nat.le_refl _) _)) HS.out.2.1).mono ?_
          rintro e w2 ⟨rfl, rfl⟩
          go_wp2_with fail
          go_roundg g'
          case measure => omega
          case rel => exact ⟨k + 1, by omega, rfl, hbe.alloc hsz _, C + 1, by go_num, HCS.out, by omega⟩
        · have hcs : C + 1 = cS (M.take (k + 1)) := by
            rw [HS.out.1, ← HC.out]
            unfold cA cT
            rw [if_neg HG.out, ← HT.out]
            rfl
          have HCS := Lib.hid hcs
          clear hcs
          go_wp2_with fail
          refine (next_any LB es _ k b _ (HL2.out.below ((Below.refl _ _).alloc (Nat.le_refl _) _)) HS.out.2.1).mono ?_
          rintro e w2 ⟨rfl, rfl⟩
          go_wp2_with fail
          go_roundg g'
          case measure => omega
          case rel => exact ⟨k + 1, by omega, rfl, hbe.alloc hsz _, C + 1, by go_num, HCS.out, by omega⟩
        · have hcs : C = cS (M.take (k + 1)) := by
            rw [HS.out.1, ← HC.out]
            unfold cA cT
            rw [if_neg HG.out, ← HT.out]
            rfl
          have HCS := Lib.hid hcs
          clear hcs
          go_wp2_with fail
          refine (next_any LB es _ k b _ (HL2.out.below ((Below.refl _ _).alloc (Nat.le_refl _) _)) HS.out.2.1).mono ?_
          rintro e w2 ⟨rfl, rfl⟩
          go_wp2_with fail
          go_roundg g'
          case measure => omega
          case rel => exact ⟨k + 1, by omega, rfl, hbe.alloc hsz _, C, by go_num, HCS.out, by omega⟩
        · have hcs : C = cS (M.take (k + 1)) := by
            rw [HS.out.1, ← HC.out]
            unfold cA cT
            rw [if_neg HG.out, ← HT.out]
            rfl
          have HCS := Lib.hid hcs
          clear hcs
          go_wp2_with fail
          refine (next_any LB es _ k b _ (HL2.out.below ((Below.refl _ _).alloc (Nat.le_refl _) _)) HS.out.2.1).mono ?_
          rintro e w2 ⟨rfl, rfl⟩
          go_wp2_with fail
          go_roundg g'
          case measure => omega
          case rel => exact ⟨k + 1, by omega, rfl, hbe.alloc hsz _, C, by go_num, HCS.out, by omega⟩
      · have HG := Lib.hid (And.intro h5 h1)
        clear h5 h1
        unfold FMat at *
        go_wp2_with fail
        have hbx : Below wr.heap.size wr (wr.alloc (.cells #[.string ⟨#[]⟩, .float .f64 0, .string ⟨#[]⟩, .slice none 0 0, .slice A m.rows.length c, .bool false, .string ⟨#[]⟩, .int .u8 4, .pointer (some ⟨P, 0, none⟩), .pointer (some ⟨Q, 0, none⟩)] 76)) := (Below.refl _ _).alloc (Nat.le_refl _) _
        have HBX := Lib.hid hbx
        have htl := toList_mat A m.rows.length c (.pointer (some ⟨P, 0, none⟩)) (.pointer (some ⟨Q, 0, none⟩)) m.rows _ ((HG.out.2.keep (Keep.below hbx fun _ hk => hk)).more fun q hq => Nat.lt_of_lt_of_le hq hbx.size) HS.out.2.2.1 (by have := HS.out.2.2.2; omega)
        clear hbx
        refine htl.mono ?_
        clear htl
        rintro e w1 ⟨z, rfl, hown, hb1⟩
        have hbw : Below W.heap.size W w1 := hbe.trans ((HBX.out.trans (hb1.mono HBX.out.size)).mono hbe.size)
        have HL3 := Lib.hid ((HL2.out.below HBX.out).below hb1)
        obtain ⟨A', cap', rfl, hsrc⟩ := hown.src
        obtain ⟨u, hu⟩ : ∃ u, u = m.rows.flatten.length := ⟨_, rfl⟩
        rw [show (inns m.rows.flatten).length = u by rw [hu]; exact List.length_map _]
        have hul : u ≤ 1000 := by rw [hu]; exact HS.out.2.2.2
        have HU := Lib.hid hu
        have HSR := Lib.hid hsrc
        clear hown hsrc hb1 hu e3
        go_wp2_with fail
        go_loopw [5, 33] (fun v i wq => ∃ q : Nat, q ≤ u ∧ i = .int .i64 q ∧ Below w1.heap.size w1 wq ∧ CrAt C m.rows.flatten q v) (fun _ i _ => u - (intOf i).toNat)
        case atStart => exact ⟨0, Nat.zero_le _, rfl, Below.refl _ _, C, rfl, rfl, by omega⟩
        case round =>
          obtain ⟨q, hq, rfl, hbq, D, rfl, hD, hDl⟩ := hrel
          have HD := Lib.hid hD
          have hszq := hbq.size
          clear hD
          by_cases hqu : q < u
          · obtain ⟨g, hg⟩ : ∃ g, m.rows.flatten[q]? = some g := ⟨_, List.getElem?_eq_getElem (by rw [← HU.out]; exact hqu)⟩
            rcases HSR.out with hnil | ⟨b1, off1, rfl, hb1, hrow⟩
            · exfalso
              have : m.rows.flatten = [] := List.map_eq_nil_iff.1 hnil
              rw [this] at hg; simp at hg
            obtain ⟨x, s, bo, er, _, hinn⟩ := g.form10t
            have hR := (hrow.below hbq hb1) q g.inn (by show (m.rows.flatten.map Gl.inn)[q]? = _; rw [List.getElem?_map, hg]; rfl)
            rw [hinn] at hR
            have c0 : wr.cell? ⟨b1, off1 + q * 10, none⟩ = some (.string ⟨#[]⟩) := hR.2 0 _ rfl
            have c1 : wr.cell? ⟨b1, off1 + q * 10 + 1, none⟩ = some (.float .f64 x) := hR.2 1 _ rfl
            have c2 : wr.cell? ⟨b1, off1 + q * 10 + 2, none⟩ = some (.string s) := hR.2 2 _ rfl
            have c3 : wr.cell? ⟨b1, off1 + q * 10 + 3, none⟩ = some (.slice none 0 0) := hR.2 3 _ rfl
            have c4 : wr.cell? ⟨b1, off1 + q * 10 + 4, none⟩ = some (.slice none 0 0) := hR.2 4 _ rfl
            have c5 : wr.cell? ⟨b1, off1 + q * 10 + 5, none⟩ = some (.bool bo) := hR.2 5 _ rfl
            have c6 : wr.cell? ⟨b1, off1 + q * 10 + 6, none⟩ = some (.string er) := hR.2 6 _ rfl
            have c7 : wr.cell? ⟨b1, off1 + q * 10 + 7, none⟩ = some (.int .u8 (tyOf g)) := hR.2 7 _ rfl
            have c8 : wr.cell? ⟨b1, off1 + q * 10 + 8, none⟩ = some (.pointer none) := hR.2 8 _ rfl
            have c9 : wr.cell? ⟨b1, off1 + q * 10 + 9, none⟩ = some (.pointer none) := hR.2 9 _ rfl
            have hfin := cR_snoc m.rows.flatten q g hg
            have HF := Lib.hid hfin
            clear hg hR hrow hinn hfin
            cases h2 : tyOf g == 2
            · cases h1 : tyOf g == 1
              · have hc : cT g = false := by unfold cT; rw [h2, h1]; rfl
                have HCT := Lib.hid hc
                clear hc
                go_wp2_with fail
                go_roundw
                case rel => exact ⟨q + 1, by omega, by go_num, hbq.alloc hszq _, D, rfl, by rw [HF.out, HCT.out, HD.out]; simp, by omega⟩
                case measure => simp [intOf]; omega
              · have hc : cT g = true := by unfold cT; rw [h2, h1]; rfl
                have HCT := Lib.hid hc
                clear hc
                go_wp2_with fail
                go_roundw
                case rel => exact ⟨q + 1, by omega, by go_num, hbq.alloc hszq _, D + 1, by go_num, by rw [HF.out, HCT.out, HD.out]; simp; omega, by omega⟩
                case measure => simp [intOf]; omega
            · have hc : cT g = true := by unfold cT; rw [h2]; rfl
              have HCT := Lib.hid hc
              clear hc
              go_wp2_with fail
              go_roundw
              case rel => exact ⟨q + 1, by omega, by go_num, hbq.alloc hszq _, D + 1, by go_num, by rw [HF.out, HCT.out, HD.out]; simp; omega, by omega⟩
              case measure => simp [intOf]; omega
          · obtain rfl : q = u := by omega
            have hcs : D = cS (M.take (k + 1)) := by
              rw [HS.out.1, ← HC.out]
              have := HD.out
              rw [List.take_of_length_le (by rw [HU.out]; exact Nat.le_refl _)] at this
              rw [this]
              unfold cA cR
              rw [if_pos (by rw [HG.out.1])]
            have HCS := Lib.hid hcs
            clear hcs
            have hbw2 : Below W.heap.size W wr := hbw.trans (hbq.mono hbw.size)
            go_wp2_with fail
            refine (next_any LB es _ k b wr (HL3.out.below hbq) HS.out.2.1).mono ?_
            rintro e w2 ⟨rfl, rfl⟩
            go_wp2_with fail
            go_roundg g'
            case measure => omega
            case rel => exact ⟨k + 1, by omega, rfl, hbw2, D, rfl, HCS.out, by omega⟩
    · obtain rfl : k = n := by omega
      rw [elemPtr_none (by rw [HN.out.2.1]; exact Nat.le_refl _)]
      have hfin := HC.out
      rw [List.take_of_length_le (by rw [HN.out.1]; exact Nat.le_refl _)] at hfin
      have his := Fl.is_ofInt (C : Int) (by omega)
      have HI := Lib.hid (And.intro hfin his)
      clear hfin his
      go_wp2_with fail
      refine (newNumber_any _ (Fl.is_num HI.out.2) _).mono ?_
      rintro e w2 ⟨rfl, hb2⟩
      have hbw2 := (HL.out.2.2.trans (hbe.mono HL.out.2.2.size)).trans (hb2.mono (Nat.le_trans HL.out.2.2.size hbe.size))
      obtain ⟨zl, z0, z1, z2, z3, z4, z5, z6, z7, z8, z9, zf⟩ := ((Z0.out.below hbe).below hb2).facts
      clear hb2
      go_wp2
      exact bodyPost_ret (v := (.agg #[.string ⟨#[]⟩, .float .f64 (Fl.clean (floatOfInt .f64 C)), .string ⟨#[]⟩, .slice none 0 0, .slice none 0 0, .bool false, .string ⟨#[]⟩, .int .u8 1, .pointer none, .pointer none])) (by simp [results, Tryz.results58, go_sem, zl, z0, z1, z2, z3, z4, z5, z6, z7, z8, z9, zf]) rfl ⟨Fl.clean (floatOfInt .f64 C), by rw [← HI.out.1]; exact Fl.is_clean HI.out.2, rfl, below10 hbw2 (Nat.le_refl _)⟩

end Go.Proofs.YtmlcaamgkgdgoaaGreat
