/- Flat: values one by one, matrices row by row, to any depth; doubtful. -/
import Derived.Test.YtdpkjhohklfieaaGreatQ
import Derived.Laws.AppendOwnNone
set_option linter.unusedSimpArgs false
set_option linter.unusedVariables false
namespace Go.Proofs.YtdpkjhohklfieaaGreat
open Go.RowKit
set_option maxRecDepth 100000

theorem wpList_append_owned {P : Program} {ops : Array Oper} {rest : List Oper} {o : Oper} {a : Act} {Q : Exit → Act → World → Prop} (w : World) (hgd : o.guard = none) (s x : Operand) (t : TypeId)
    (ho : o.op = .call { callee := .builtin .append, args := #[s, x], argTypes := #[t, t] })
    (base : Nat) (e : TypeId) (z : Value) (size bytes : Nat) (ht : P.underlying t = some (.slice e)) (hinfo : (P.info? e).map (fun i => (i.zero, i.size, i.bytes)) = some (some z, size, bytes))
    (hzs : z.cells.size = size) (hsz : 0 < size)
    (v : Value) (cs : List (List Value)) (hs : a.eval s = v) (hown : Owns w base e size v cs) (base' : Nat) (sv : Value) (cs' : List (List Value)) (hx : a.eval x = sv) (hsrc : Owns w base' e size sv cs')
    (h1 : ∀ c ∈ cs', ∀ u ∈ c, u.oneCell' = true) (hn : cs.length + cs'.length ≤ 1000000) (hby : bytes ≤ 1000) (hbase : base ≤ w.heap.size)
    (h : ∀ v' w', Owns w' base e size v' (cs ++ cs') → w.grownBy w' v.ownBlock → (v'.ownBlock = v.ownBlock ∨ v'.ownBlock = some w.heap.size) → Below base w w' → wpList P ops Q rest (a.put o.dst v') w') :
    wpList P ops Q (o :: rest) a w := by
  obtain ⟨i, hi, hz, hsize, hbytes⟩ := info_parts hinfo
  have hlt := hown.1.lt
  rcases hsrc.1.2 with ⟨rfl, h0⟩ | ⟨g, cap, cur, rfl, hb, hg, hnc, hcm, _, _⟩
  · have hnil : cs' = [] := List.eq_nil_of_length_eq_zero h0
    subst hnil
    refine wpList_append_own_none (P := P) (w := w) hgd s x t ho base e i size ht hi v cs.length cs.flatten hs hown.1 hx ?_
    exact h v w (by simpa using hown) (World.grownBy.refl w _) (.inl rfl) (Below.refl _ _)
  · have hcells := hsrc.1.cells (g := g) rfl
    refine wpList_append_own_at (P := P) w hgd s x t ho base e i z size bytes ht hi hz hsize hbytes hzs hsz v cs.length cs.flatten hs hown.1 ⟨g, 0, none⟩ cs'.length cap cs'.flatten hx hsrc.1.1 hcells
      (by intro u hu; obtain ⟨c, hc, huc⟩ := List.mem_flatten.1 hu; exact h1 c hc u huc) (by unfold maxLen; omega) ?_ hbase fun v' w' ho' hg' _ hat => ?_
    · calc (cs.length + cs'.length) * bytes ≤ 1000000 * 1000 := Nat.mul_le_mul hn hby
        _ ≤ 140737488355328 := by decide
    · refine h v' w' ⟨by simpa using ho', ?_⟩ hg' hat ((Below.refl _ _).grown hg' hbase fun k hk => (hlt k hk).1)
      intro c hc
      rcases List.mem_append.1 hc with h' | h'
      · exact hown.2 c h'
      · exact hsrc.2 c h'

/-- A slice's address under which so many elements lie, below block B; of none nothing is said. -/
def Src (w : World) (B : Nat) (A : Option Addr) (size : Nat) (cs : List (List Value)) : Prop :=
  cs = [] ∨ ∃ b off, A = some ⟨b, off, none⟩ ∧ b < B ∧ Row w b off size cs

theorem Src.below {w w' : World} {B : Nat} {A : Option Addr} {size : Nat} {cs : List (List Value)} (h : Src w B A size cs) {B' : Nat} (hb : Below B' w w') (hB : B ≤ B') : Src w' B A size cs := by
  rcases h with h | ⟨b, off, hA, hlt, hr⟩
  · exact .inl h
  · exact .inr ⟨b, off, hA, hlt, hr.below hb (Nat.lt_of_lt_of_le hlt hB)⟩

/-- The cells of a value lead, through fewer than d matrices, to these single values. -/
def Leads : Nat → World → Nat → List Value → List Fv → Prop
  | 0, _, _, _, _ => False
  | d + 1, w, B, c, xs => (∃ x : Fv, x.k ≠ 5 ∧ c = x.cells ∧ xs = [x]) ∨
      ∃ (n dd : Int) (s : ByteArray) (A : Option Addr) (cap : Nat) (rows : List (Value × List Fv)), c = [.int .i64 5, .int .i64 n, .int .i64 dd, .string s, .slice A rows.length cap] ∧ rows.length ≤ 1000 ∧
        Src w B A 1 (rows.map fun r => [r.1]) ∧ xs = (rows.map (·.2)).flatten ∧
        ∀ r ∈ rows, ∃ (A' : Option Addr) (cap' : Nat) (els : List (List Value × List Fv)), r.1 = .slice A' els.length cap' ∧ els.length ≤ 1000 ∧ Src w B A' 5 (els.map (·.1)) ∧ r.2 = (els.map (·.2)).flatten ∧ ∀ e ∈ els, Leads d w B e.1 e.2

theorem Leads.below {d : Nat} : ∀ {w w' : World} {B B' : Nat} {c : List Value} {xs : List Fv}, Leads d w B c xs → Below B' w w' → B ≤ B' → Leads d w' B c xs := by
  induction d with
  | zero => intro w w' B B' c xs h _ _; exact h
  | succ d ih =>
    intro w w' B B' c xs h hb hB
    rcases h with h | ⟨n, dd, s, A, cap, rows, hc, hl, hsrc, hxs, hr⟩
    · exact .inl h
    · refine .inr ⟨n, dd, s, A, cap, rows, hc, hl, hsrc.below hb hB, hxs, fun r hrm => ?_⟩
      obtain ⟨A', cap', els, h1, h2, h3, h4, h5⟩ := hr r hrm
      exact ⟨A', cap', els, h1, h2, h3.below hb hB, h4, fun e he => ih (h5 e he) hb hB⟩

theorem Leads.more {d : Nat} : ∀ {w : World} {B B' : Nat} {c : List Value} {xs : List Fv}, Leads d w B c xs → B ≤ B' → Leads d w B' c xs := by
  have hs : ∀ {w : World} {B B' : Nat} {A : Option Addr} {size : Nat} {cs : List (List Value)}, Src w B A size cs → B ≤ B' → Src w B' A size cs := by
    rintro w B B' A size cs (h | ⟨b, off, hA, hlt, hr⟩) hB
    · exact .inl h
    · exact .inr ⟨b, off, hA, Nat.lt_of_lt_of_le hlt hB, hr⟩
  induction d with
  | zero => intro w B B' c xs h _; exact h
  | succ d ih =>
    intro w B B' c xs h hB
    rcases h with h | ⟨n, dd, s, A, cap, rows, hc, hl, hsrc, hxs, hr⟩
    · exact .inl h
    · refine .inr ⟨n, dd, s, A, cap, rows, hc, hl, hs hsrc hB, hxs, fun r hrm => ?_⟩
      obtain ⟨A', cap', els, h1, h2, h3, h4, h5⟩ := hr r hrm
      exact ⟨A', cap', els, h1, h2, hs h3 hB, h4, fun e he => ih (h5 e he) hB⟩

theorem Fv.one (x : Fv) : ∀ u ∈ x.cells, u.oneCell' = true := by
  intro u hu
  simp [Fv.cells] at hu
  rcases hu with rfl | rfl | rfl | rfl | rfl <;> rfl

def fvs (L : List Fv) : List (List Value) := L.map Fv.cells
/-- What elements lead to, in a row. -/
def leaves (els : List (List Value × List Fv)) : List Fv := (els.map (·.2)).flatten

theorem leaves_take (els : List (List Value × List Fv)) (k : Nat) (e : List Value × List Fv) (h : els[k]? = some e) : leaves (els.take (k + 1)) = leaves (els.take k) ++ e.2 := by
  unfold leaves; rw [List.take_add_one, h]; simp
theorem rows_take (rows : List (Value × List Fv)) (k : Nat) (r : Value × List Fv) (h : rows[k]? = some r) : ((rows.take (k + 1)).map (·.2)).flatten = ((rows.take k).map (·.2)).flatten ++ r.2 := by
  rw [List.take_add_one, h]; simp
theorem flatten_take_le (l : List (List Fv)) (k : Nat) : ((l.take k).flatten).length ≤ l.flatten.length := by
  conv => rhs; rw [← List.take_append_drop k l, List.flatten_append, List.length_append]
  omega


theorem flat_none (A : Option Addr) (cap : Nat) (w : World) : Calls Tryz.prog 24 #[.slice A 0 cap] w (MadePost 27 5 [] w) := by
  go_enter Tryz.func24, Tryz.ntmps24
  go_wp2
  refine wp_loop_rounds 1 ?_
  rw [rounds_succ]
  go_wp2
  go_ret
  exact ⟨_, rfl, Owns.nil_ _ _ _ _, Below.refl _ _⟩

set_option maxHeartbeats 4000000 in
theorem flat_any (d : Nat) : ∀ (B : Nat) (A : Option Addr) (cap : Nat) (els : List (List Value × List Fv)) (w : World), els.length ≤ 1000 → Src w B A 5 (els.map (·.1)) → B ≤ w.heap.size →
    (∀ e ∈ els, Leads d w B e.1 e.2) → (leaves els).length ≤ 100000 → Calls Tryz.prog 24 #[.slice A els.length cap] w (MadePost 27 5 (fvs (leaves els)) w) := by
  induction d with
  | zero =>
    intro B A cap els w hlen hsrc hB hlead htot
    have hels : els = [] := by
      cases els with
      | nil => rfl
      | cons e r => exact (hlead e (List.mem_cons_self ..)).elim
    subst hels
    exact flat_none A cap w
  | succ d ih =>
    intro B A cap els w hlen hsrc hB hlead htot
    obtain ⟨n, hn⟩ : ∃ n, n = els.length := ⟨_, rfl⟩
    rw [← hn]
    rw [← hn] at hlen
    have HN := Lib.hid hn
    clear hn
    rcases hsrc with hnil | ⟨b, off, rfl, hlt, hrow⟩
    · have hels : els = [] := by simpa using hnil
      subst hels
      have hn0 : n = 0 := HN.out
      subst hn0
      exact flat_none A cap w
    · have IH := Lib.hid ih
      clear ih
      have HL := Lib.hid hlead
      clear hlead
      go_enter Tryz.func24, Tryz.ntmps24
      go_wp2
      go_loopw [3, 4] (fun v i wr => ∃ (k : Nat) (y : Value), k ≤ n ∧ i = .int .i64 k ∧ y = v ∧ Below w.heap.size w wr ∧ Owns wr w.heap.size 27 5 y (fvs (leaves (els.take k)))) (fun _ i _ => n - (intOf i).toNat)
      case atStart => exact ⟨0, _, Nat.zero_le _, rfl, rfl, Below.refl _ _, Owns.nil_ _ _ _ _⟩
      case round =>
        obtain ⟨k, y, hk, rfl, rfl, hbe, hown⟩ := hrel
        by_cases hkn : k < n
        · have hkl : k < els.length := by rw [← HN.out]; exact hkn
          obtain ⟨el, hel⟩ : ∃ el, els[k]? = some el := ⟨_, List.getElem?_eq_getElem hkl⟩
          have hsz := hbe.size
          have hld := HL.out el (List.mem_of_getElem? hel)
          have hR := (hrow.below hbe (by omega)) k el.1 (by simp [hel])
          have hfin := leaves_take els k el hel
          have HF := Lib.hid hfin
          have htk : (leaves (els.take (k + 1))).length ≤ 100000 := by
            refine Nat.le_trans ?_ htot
            unfold leaves
            rw [List.map_take]
            exact flatten_take_le _ _
          have htk' : (leaves (els.take k)).length + el.2.length ≤ 100000 := by rw [hfin, List.length_append] at htk; exact htk
          clear hfin htk
          obtain ⟨c, xs⟩ := el
          simp only at hld hR HF htk'
          have HE := Lib.hid hel
          have HR := Lib.hid hrow
          have hoff : off + k * 5 + 0 = off + k * 5 := rfl
          clear hel hrow
          rcases hld with ⟨x, hx5, rfl, rfl⟩ | ⟨nn, dd, s, A1, cap1, rows, rfl, hrl, hsrc1, rfl, hrows⟩
          · have c0 : wr.cell? ⟨b, off + k * 5, none⟩ = some (.int .i64 x.k) := hR.2 0 _ rfl
            have c1 : wr.cell? ⟨b, off + k * 5 + 1, none⟩ = some (.int .i64 x.n) := hR.2 1 _ rfl
            have c2 : wr.cell? ⟨b, off + k * 5 + 2, none⟩ = some (.int .i64 x.d) := hR.2 2 _ rfl
            have c3 : wr.cell? ⟨b, off + k * 5 + 3, none⟩ = some (.string x.s) := hR.2 3 _ rfl
            have c4 : wr.cell? ⟨b, off + k * 5 + 4, none⟩ = some (.slice none 0 0) := hR.2 4 _ rfl
            have hk5 : (x.k != 5) = true := by rw [bne_iff_ne]; exact hx5
            have hlk : (fvs (leaves (els.take k))).length ≤ 1000000 := by unfold fvs; rw [List.length_map]; omega
            clear hR hx5 htk'
            go_wp2_with (at_builtin; refine wpList_append_box _ rfl (.tmp 18) (.tmp 23) 29 rfl w.heap.size 27 _ 5 64 Tryz.underlying29 infoV rfl (by decide) y (fvs (leaves (els.take k))) (by rfl) (by exact hown) #[.int .i64 x.k, .int .i64 x.n, .int .i64 x.d, .string x.s, .slice none 0 0] rfl 1 _ (by rfl) (by simp) (by exact x.one) hlk (by decide) (by omega) ?_; intro v' w2 hown2 hg2 hat2 hbe2)
            go_roundw
            case rel => exact ⟨k + 1, _, by omega, by go_num, rfl, hbe.trans hbe2, by rw [HF.out, fvs, List.map_append]; exact hown2⟩
            case measure => simp [intOf]; omega
          · have c0 : wr.cell? ⟨b, off + k * 5, none⟩ = some (.int .i64 5) := hR.2 0 _ rfl
            have c4 : wr.cell? ⟨b, off + k * 5 + 4, none⟩ = some (.slice A1 rows.length cap1) := hR.2 4 _ rfl
            clear hR
            have HS := Lib.hid hsrc1
            have HW := Lib.hid hrows
            clear hsrc1 hrows
            obtain ⟨m, hm⟩ : ∃ m, m = rows.length := ⟨_, rfl⟩
            rw [← hm] at c4 hrl
            have HM := Lib.hid hm
            clear hm
            go_wp2_with fail
            clear c0 c4
            obtain ⟨wo, rfl⟩ : ∃ wo : World, wo = wr := ⟨_, rfl⟩
            go_loopw [3, 5] (fun v i wq => ∃ (q : Nat) (z : Value), q ≤ m ∧ i = .int .i64 q ∧ z = v ∧ Below w.heap.size w wq ∧ Owns wq w.heap.size 27 5 z (fvs (leaves (els.take k) ++ ((rows.take q).map (·.2)).flatten))) (fun _ i _ => m - (intOf i).toNat)
            case atStart => exact ⟨0, _, Nat.zero_le _, rfl, rfl, hbe, by simpa using hown⟩
            case round =>
              obtain ⟨q, z, hq, rfl, rfl, hbq, hownq⟩ := hrel
              have hszq := hbq.size
              have hRq := (HR.out.below hbq (by omega)) k _ (by rw [List.getElem?_map, HE.out]; rfl)
              have c4 : wr.cell? ⟨b, off + k * 5 + 4, none⟩ = some (.slice A1 m cap1) := by rw [HM.out]; exact hRq.2 4 _ rfl
              clear hRq
              by_cases hqm : q < m
              · have hql : q < rows.length := by rw [← HM.out]; exact hqm
                obtain ⟨r, hr⟩ : ∃ r, rows[q]? = some r := ⟨_, List.getElem?_eq_getElem hql⟩
                obtain ⟨A2, cap2, els2, hr1, hl2, hs2, hr2, hle2⟩ := HW.out r (List.mem_of_getElem? hr)
                rcases HS.out with hnil | ⟨b1, off1, rfl, hb1, hrow1⟩
                · have : rows = [] := by simpa using hnil
                  rw [this] at hql; simp at hql
                · have hR1 := (hrow1.below hbq (by omega)) q [r.1] (by simp [hr])
                  have d0 : wr.cell? ⟨b1, off1 + q, none⟩ = some (.slice A2 els2.length cap2) := by have := hR1.2 0 _ rfl; rw [hr1] at this; simpa using this
                  have hrt := rows_take rows q r hr
                  have hlen2 : (leaves els2).length ≤ (rows.map (·.2)).flatten.length := by
                    have h1 := flatten_take_le (rows.map (·.2)) (q + 1)
                    rw [← List.map_take, hrt, List.length_append, hr2] at h1
                    unfold leaves; omega
                  have hlq : (fvs (leaves (els.take k) ++ ((rows.take q).map (·.2)).flatten)).length + (fvs (leaves els2)).length ≤ 1000000 := by
                    have h1 := flatten_take_le (rows.map (·.2)) q
                    rw [← List.map_take] at h1
                    unfold fvs; simp only [List.length_map, List.length_append]; omega
                  have hlen3 : (leaves els2).length ≤ 100000 := by omega
                  have HRT := Lib.hid hrt
                  have HR2 := Lib.hid hr2
                  clear hR1 hrow1 hr1 hrt hr2 hlen2
                  go_wp2_with fail
                  refine (IH.out B A2 cap2 els2 _ hl2 (hs2.below hbq hB) (by omega) (fun e he => (hle2 e he).below hbq hB) hlen3).mono ?_
                  rintro e w1 ⟨sv, rfl, hsv, hb2⟩
                  have hown1 : Owns w1 w.heap.size 27 5 z (fvs (leaves (els.take k) ++ ((rows.take q).map (·.2)).flatten)) := ⟨hownq.1.kept (row := none) ⟨hb2.os, hb2.tape, hb2.output, hb2.size, fun i hi _ => hb2.block i hi⟩ (by cases hv : Value.ownBlock z <;> simp), hownq.2⟩
                  have hz2 := hb2.size
                  clear c4 d0
                  go_wp2_with (at_builtin; refine wpList_append_owned w1 rfl (.tmp 35) (.tmp 44) 29 rfl w.heap.size 27 _ 5 64 Tryz.underlying29 infoV rfl (by decide) z _ (by rfl) (by exact hown1) _ sv _ (by rfl) (by exact hsv) (by intro c hc; simp [fvs] at hc; obtain ⟨x, _, rfl⟩ := hc; exact x.one) hlq (by decide) (by omega) ?_; intro v' w2 hown2 hg2 hat2 hbe2)
                  go_roundw
                  case rel => exact ⟨q + 1, _, by omega, by go_num, rfl, (hbq.trans (hb2.mono (by omega))).trans hbe2, by rw [HRT.out, HR2.out]; unfold fvs at hown2 ⊢; rw [← List.append_assoc, List.map_append]; exact hown2⟩
                  case measure => simp [intOf]; omega
              · have hqe : q = m := by omega
                subst hqe
                go_wp2
                go_roundw
                case rel => exact ⟨k + 1, _, by omega, by go_num, rfl, hbq, by rw [HF.out]; rw [show rows.take q = rows from List.take_of_length_le (by rw [HM.out]; exact Nat.le_refl _)] at hownq; exact hownq⟩
                case measure => simp [intOf]; omega
        · have hke : k = n := by omega
          subst hke
          go_wp2
          go_ret
          refine ⟨_, rfl, ?_, hbe⟩
          rw [List.take_of_length_le (by rw [HN.out]; exact Nat.le_refl _)] at hown
          exact hown

end Go.Proofs.YtdpkjhohklfieaaGreat
