/- ToList: the cells of a range, one by one; COUNTBLANK. -/
import Derived.Test.YtdpkjhohklfieaaGreatSb
import Derived.Test.YtdpkjhohklfieaaGreatFx
set_option linter.unusedSimpArgs false
set_option linter.unusedVariables false
namespace Go.Proofs.YtdpkjhohklfieaaGreat
open Go.RowKit
set_option maxRecDepth 100000
set_option maxHeartbeats 1000000

theorem Row.flat {w : World} {b size : Nat} : ∀ {r : List (List Value)} {off : Nat}, Row w b off size r → ∀ j u, r.flatten[j]? = some u → w.cell? ⟨b, off + j, none⟩ = some u := by
  intro r
  induction r with
  | nil => intro off _ j u h; simp at h
  | cons x xs ih =>
    intro off h j u hj
    have hx := h 0 x rfl
    rw [List.flatten_cons] at hj
    by_cases hl : j < x.length
    · rw [List.getElem?_append_left hl] at hj
      have := hx.2 j u hj
      simpa using this
    · rw [List.getElem?_append_right (by omega)] at hj
      have hs : Row w b (off + size) size xs := fun i c hi => by
        have := h (i + 1) c (by simpa using hi)
        refine ⟨this.1, fun q v hq => ?_⟩
        have := this.2 q v hq
        rwa [show off + (i + 1) * size + q = off + size + i * size + q by rw [Nat.succ_mul]; omega] at this
      have := ih hs _ _ hj
      rw [hx.1] at this hl
      rwa [show off + size + (j - size) = off + j by omega] at this
theorem Row.lens {w : World} {b off size : Nat} {r : List (List Value)} (h : Row w b off size r) : ∀ c ∈ r, c.length = size := by
  intro c hc
  obtain ⟨i, hi⟩ := List.getElem?_of_mem hc
  exact (h i c hi).1
theorem flatten_len {size : Nat} {r : List (List Value)} (h : ∀ c ∈ r, c.length = size) : r.flatten.length = r.length * size := by
  induction r with
  | nil => simp
  | cons x xs ih =>
    rw [List.flatten_cons, List.length_append, ih (fun c hc => h c (List.mem_cons_of_mem _ hc)), h x (List.mem_cons_self ..), List.length_cons, Nat.succ_mul]; omega

theorem wpList_append_row {P : Program} {ops : Array Oper} {rest : List Oper} {o : Oper} {a : Act} {Q : Exit → Act → World → Prop} (w : World) (hgd : o.guard = none) (s x : Operand) (t : TypeId)
    (ho : o.op = .call { callee := .builtin .append, args := #[s, x], argTypes := #[t, t] })
    (base : Nat) (e : TypeId) (z : Value) (size bytes : Nat) (ht : P.underlying t = some (.slice e)) (hinfo : (P.info? e).map (fun i => (i.zero, i.size, i.bytes)) = some (some z, size, bytes))
    (hzs : z.cells.size = size) (hsz : 0 < size)
    (v : Value) (cs : List (List Value)) (hs : a.eval s = v) (hown : Owns w base e size v cs) (b off cap : Nat) (r : List (List Value)) (n : Nat) (hn' : n = r.length) (hx : a.eval x = .slice (some ⟨b, off, none⟩) n cap) (hrow : Row w b off size r)
    (h1 : ∀ c ∈ r, ∀ u ∈ c, u.oneCell' = true) (hn : cs.length + r.length ≤ 1000000) (hby : bytes ≤ 1000) (hbase : base ≤ w.heap.size)
    (h : ∀ v' w', Owns w' base e size v' (cs ++ r) → w.grownBy w' v.ownBlock → (v'.ownBlock = v.ownBlock ∨ v'.ownBlock = some w.heap.size) → Below base w w' → wpList P ops Q rest (a.put o.dst v') w') :
    wpList P ops Q (o :: rest) a w := by
  obtain ⟨i, hi, hz, hsize, hbytes⟩ := info_parts hinfo
  have hlt := hown.1.lt
  subst hn'
  refine wpList_append_own_at (P := P) w hgd s x t ho base e i z size bytes ht hi hz hsize hbytes hzs hsz v cs.length cs.flatten hs hown.1 ⟨b, off, none⟩ r.length cap r.flatten hx (flatten_len hrow.lens) ?_
    (by intro u hu; obtain ⟨c, hc, huc⟩ := List.mem_flatten.1 hu; exact h1 c hc u huc) (by unfold maxLen; omega) ?_ hbase fun v' w' ho' hg' _ hat => ?_
  · intro j u hj
    have hadd : (⟨b, off, none⟩ : Addr).add j = ⟨b, off + j, none⟩ := by unfold Addr.add; split <;> simp_all
    rw [hadd]
    exact hrow.flat j u hj
  · calc (cs.length + r.length) * bytes ≤ 1000000 * 1000 := Nat.mul_le_mul hn hby
      _ ≤ 140737488355328 := by decide
  · refine h v' w' ⟨by simpa using ho', ?_⟩ hg' hat ((Below.refl _ _).grown hg' hbase fun k hk => (hlt k hk).1)
    intro c hc
    rcases List.mem_append.1 hc with h' | h'
    · exact hown.2 c h'
    · exact hrow.lens c h'

theorem inns_one (r : List Gl) : ∀ c ∈ inns r, ∀ u ∈ c, u.oneCell' = true := by
  intro c hc u hu
  obtain ⟨g, _, rfl⟩ := List.mem_map.1 hc
  obtain ⟨x, s, b, e, t, _, h2⟩ := g.form10
  rw [h2] at hu
  exact fcells_one x s b e t u hu
theorem inns_append (a b : List Gl) : inns (a ++ b) = inns a ++ inns b := by unfold inns; rw [List.map_append]
theorem rows_snoc2 (rows : List (List Gl)) (k : Nat) (r : List Gl) (h : rows[k]? = some r) : (rows.take (k + 1)).flatten = (rows.take k).flatten ++ r := by
  rw [List.take_add_one, h]; simp

set_option maxHeartbeats 4000000 in
theorem toList_mat (A : Option Addr) (n c : Nat) (P Q : Value) (rows : List (List Gl)) (w : World) (hr : RowsIs 10 w (· < w.heap.size) A n (rows.map inns)) (hl : rows.length ≤ 1000) (ht : rows.flatten.length ≤ 100000) :
    Calls Tryz.prog 58 #[.agg #[.string ⟨#[]⟩, .float .f64 0, .string ⟨#[]⟩, .slice none 0 0, .slice A n c, .bool false, .string ⟨#[]⟩, .int .u8 4, P, Q]] w (MadePost 67 10 (inns rows.flatten) w) := by
  obtain ⟨hne, hn, b, off, rfl, hb, hrow⟩ := hr
  rw [List.length_map] at hn
  have hnl : n ≤ 1000 := by omega
  have HN := Lib.hid hn
  have HR := Lib.hid hrow
  have HT := Lib.hid ht
  clear hn hrow hl hne ht
  go_enter Tryz.func58, Tryz.ntmps58
  go_wp2_with fail
  have hbA : Below w.heap.size w (w.alloc (.cells #[.string ⟨#[]⟩, .float .f64 0, .string ⟨#[]⟩, .slice none 0 0, .slice (some ⟨b, off, none⟩) n c, .bool false, .string ⟨#[]⟩, .int .u8 4, P, Q] 67)) := (Below.refl _ _).alloc (Nat.le_refl _) _
  go_loopw [3, 13] (fun v i wr => ∃ (k : Nat) (y : Value), k ≤ n ∧ i = .int .i64 k ∧ y = v ∧ Below w.heap.size w wr ∧ Owns wr w.heap.size 67 10 y (inns (rows.take k).flatten)) (fun _ i _ => n - (intOf i).toNat)
  case atStart => exact ⟨0, _, Nat.zero_le _, rfl, rfl, hbA, Owns.nil_ _ _ _ _⟩
  case round =>
    obtain ⟨k, y, hk, rfl, rfl, hbe, hown⟩ := hrel
    have HO := Lib.hid hown
    clear hown
    by_cases hlt : k < n
    · obtain ⟨r, hr⟩ : ∃ r, rows[k]? = some r := ⟨_, List.getElem?_eq_getElem (by rw [← HN.out]; exact hlt)⟩
      obtain ⟨hd, hc, hrn, b', off', c', rfl, hb', hrow'⟩ := HR.out k (inns r) (by simp [hr])
      have hle : (inns r).length = r.length := by simp [inns]
      rw [hle] at hc
      have d0 : wr.cell? ⟨b, off + k, none⟩ = some (.slice (some ⟨b', off', none⟩) r.length c') := (hbe.cell (p := ⟨b, off + k, none⟩) hb).trans hc
      have hfin := rows_snoc2 rows k r hr
      have hlk : (inns (rows.take k).flatten).length + (inns r).length ≤ 1000000 := by
        have h1 : ((rows.take (k + 1)).flatten).length ≤ rows.flatten.length := by
          conv => rhs; rw [← List.take_append_drop (k + 1) rows, List.flatten_append, List.length_append]
          omega
        rw [hfin, List.length_append] at h1
        have := HT.out
        unfold inns; simp only [List.length_map]; omega
      have HF := Lib.hid hfin
      have HROW := Lib.hid (hrow'.below hbe hb')
      have HLE := Lib.hid hle
      have hsz := hbe.size
      clear hr hc hrow' hrn hfin hle
      go_wp2_with (at_builtin; refine wpList_append_row _ rfl (.tmp 17) (.tmp 18) 62 rfl w.heap.size 67 _ 10 136 Tryz.underlying62 infoF rfl (by decide) y _ (by rfl) (by exact HO.out) b' off' c' (inns r) r.length HLE.out.symm (by rfl) (by exact HROW.out) (inns_one r) hlk (by decide) (by omega) ?_; intro v' w2 hown2 hg2 hat2 hbe2)
      go_roundw
      case rel => first | exact ⟨k + 1, _, by omega, by go_num, rfl, hbe.trans hbe2, by rw [HF.out, inns_append]; exact hown2⟩ | exact ⟨k + 1, by omega, by go_num, hbe.trans hbe2, by rw [HF.out, inns_append]; exact hown2⟩
      case measure => simp [intOf]; omega
    · obtain rfl : k = n := by omega
      go_wp2
      go_ret
      refine ⟨_, rfl, ?_, hbe⟩
      have := HO.out
      rwa [List.take_of_length_le (by rw [HN.out]; exact Nat.le_refl _)] at this

end Go.Proofs.YtdpkjhohklfieaaGreat
