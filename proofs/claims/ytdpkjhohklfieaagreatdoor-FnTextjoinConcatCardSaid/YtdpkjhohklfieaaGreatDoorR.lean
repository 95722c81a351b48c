/- Flat: values one by one, matrices row by row, to any depth; doubtful. -/
import Derived.Test.YtdpkjhohklfieaaGreatDoorQ
import Derived.Laws.AppendOwnNone
set_option linter.unusedSimpArgs false
set_option linter.unusedVariables false
namespace Go.Proofs.YtdpkjhohklfieaaGreatDoor
open Go.RowKit
set_option maxRecDepth 100000

theorem wpList_append_owned {P : Program} {ops : Array Oper} {rest : List Oper} {o : Oper} {a : Act} {Q : Exit → Act → World → Prop} (w : World) (hgd : o.guard = none) (s x : Operand) (t : TypeId)
    (ho : o.op = .call { callee := .builtin .append, args := #[s, x], argTypes := #[t, t] })
    (base : Nat) (e : TypeId) (z : Value) (size bytes : Nat) (ht : P.underlying t = some (.slice e)) (hinfo : (P.info? e).map (fun i => (i.zero, i.size, i.bytes)) = some (some z, size, bytes))
    (hzs : z.cells.size = size) (hsz : 0 < size)
    (v : Value) (cs : List (List Value)) (hs : a.eval s = v) (hown : Owns w base e size v cs) (base' : Nat) (sv : Value) (cs' : List (List Value)) (hx : a.eval x = sv) (hsrc : Owns w base' e size sv cs')
    (h1 : ∀ c ∈ cs', ∀ u ∈ c, u.oneCell' = true) (hn : cs.length + cs'.length ≤ 1000000) (hby : bytes ≤ 1000) (hbase : base ≤ w.heap.size)
    (h : ∀ v' w', Owns w' base e size v' (cs ++ cs') → w.grownBy w' v.ownBlock → (v'.ownBlock = v.ownBlock ∨ v'.ownBlock = some w.heap.size) → Below base w w' → wpList P ops Q rest (a.put o.dst v') w') :
    wpList P ops Q (o :: rest) a w := by
  obtain ⟨i, hi, hz, hsize, hbytes⟩ := info_parts hinfo
  have hlt := hown.1.lt
  rcases hsrc.1.2 with ⟨rfl, h0⟩ | ⟨g, cap, cur, rfl, hb, hg, hnc, hcm, _, _⟩
  · have hnil : cs' = [] := List.eq_nil_of_length_eq_zero h0
    subst hnil
    refine wpList_append_own_none (P := P) (w := w) hgd s x t ho base e i size ht hi v cs.length cs.flatten hs hown.1 hx ?_
    exact h v w (by simpa using hown) (World.grownBy.refl w _) (.inl rfl) (Below.refl _ _)
  · have hcells := hsrc.1.cells (g := g) rfl
    refine wpList_append_own_at (P := P) w hgd s x t ho base e i z size bytes ht hi hz hsize hbytes hzs hsz v cs.length cs.flatten hs hown.1 ⟨g, 0, none⟩ cs'.length cap cs'.flatten hx hsrc.1.1 hcells
      (by intro u hu; obtain ⟨c, hc, huc⟩ := List.mem_flatten.1 hu; exact h1 c hc u huc) (by unfold maxLen; omega) ?_ hbase fun v' w' ho' hg' _ hat => ?_
    · calc (cs.length + cs'.length) * bytes ≤ 1000000 * 1000 := Nat.mul_le_mul hn hby
        _ ≤ 140737488355328 := by decide
    · refine h v' w' ⟨by simpa using ho', ?_⟩ hg' hat ((Below.refl _ _).grown hg' hbase fun k hk => (hlt k hk).1)
      intro c hc
      rcases List.mem_append.1 hc with h' | h'
      · exact hown.2 c h'
      · exact hsrc.2 c h'

/-- A slice's address under which so many elements lie, below block B; of none nothing is said. -/
def Src (w : World) (B : Nat) (A : Option Addr) (size : Nat) (cs : List (List Value)) : Prop :=
  cs = [] ∨ ∃ b off, A = some ⟨b, off, none⟩ ∧ b < B ∧ Row w b off size cs

theorem Src.below {w w' : World} {B : Nat} {A : Option Addr} {size : Nat} {cs : List (List Value)} (h : Src w B A size cs) {B' : Nat} (hb : Below B' w w') (hB : B ≤ B') : Src w' B A size cs := by
  rcases h with h | ⟨b, off, hA, hlt, hr⟩
  · exact .inl h
  · exact .inr ⟨b, off, hA, hlt, hr.below hb (Nat.lt_of_lt_of_le hlt hB)⟩

/-- The cells of a value lead, through fewer than d matrices, to these single values. -/
def Leads : Nat → World → Nat → List Value → List Fv → Prop
  | 0, _, _, _, _ => False
  | d + 1, w, B, c, xs => (∃ x : Fv, x.k ≠ 5 ∧ c = x.cells ∧ xs = [x]) ∨
      ∃ (n dd : Int) (s : ByteArray) (A : Option Addr) (cap : Nat) (rows : List (Value × List Fv)), c = [.int .i64 5, .int .i64 n, .int .i64 dd, .string s, .slice A rows.length cap] ∧ rows.length ≤ 1000 ∧
        Src w B A 1 (rows.map fun r => [r.1]) ∧ xs = (rows.map (·.2)).flatten ∧
        ∀ r ∈ rows, ∃ (A' : Option Addr) (cap' : Nat) (els : List (List Value × List Fv)), r.1 = .slice A' els.length cap' ∧ els.length ≤ 1000 ∧ Src w B A' 5 (els.map (·.1)) ∧ r.2 = (els.map (·.2)).flatten ∧ ∀ e ∈ els, Leads d w B e.1 e.2

theorem Leads.below {d : Nat} : ∀ {w w' : World} {B B' : Nat} {c : List Value} {xs : List Fv}, Leads d w B c xs → Below B' w w' → B ≤ B' → Leads d w' B c xs := by
  induction d with
  | zero => intro w w' B B' c xs h _ _; exact h
  | succ d ih =>
    intro w w' B B' c xs h hb hB
    rcases h with h | ⟨n, dd, s, A, cap, rows, hc, hl, hsrc, hxs, hr⟩
    · exact .inl h
    · refine .inr ⟨n, dd, s, A, cap, rows, hc, hl, hsrc.below hb hB, hxs, fun r hrm => ?_⟩
      obtain ⟨A', cap', els, h1, h2, h3, h4, h5⟩ := hr r hrm
      exact ⟨A', cap', els, h1, h2, h3.below hb hB, h4, fun e he => ih (h5 e he) hb hB⟩

theorem Leads.more {d : Nat} : ∀ {w : World} {B B' : Nat} {c : List Value} {xs : List Fv}, Leads d w B c xs → B ≤ B' → Leads d w B' c xs := by
  have hs : ∀ {w : World} {B B' : Nat} {A : Option Addr} {size : Nat} {cs : List (List Value)}, Src w B A size cs → B ≤ B' → Src w B' A size cs := by
    rintro w B B' A size cs (h | ⟨b, off, hA, hlt, hr⟩) hB
    · exact .inl h
    · exact .inr ⟨b, off, hA, Nat.lt_of_lt_of_le hlt hB, hr⟩
  induction d with
  | zero => intro w B B' c xs h _; exact h
  | succ d ih =>
    intro w B B' c xs h hB
    rcases h with h | ⟨n, dd, s, A, cap, rows, hc, hl, hsrc, hxs, hr⟩
    · exact .inl h
    · refine .inr ⟨n, dd, s, A, cap, rows, hc, hl, hs hsrc hB, hxs, fun r hrm => ?_⟩
      obtain ⟨A', cap', els, h1, h2, h3, h4, h5⟩ := hr r hrm
      exact ⟨A', cap', els, h1, h2, hs h3 hB, h4, fun e he => ih (h5 e he) hB⟩

theorem Fv.one (x : Fv) : ∀ u ∈ x.cells, u.oneCell' = true := by
  intro u hu
  simp [Fv.cells] at hu
  rcases hu with rfl | rfl | rfl | rfl | rfl <;> rfl

def fvs (L : List Fv) : List (List Value) := L.map Fv.cells
/-- What elements lead to, in a row. -/
def leaves (els : List (List Value × List Fv)) : List Fv := (els.map (·.2)).flatten

theorem leaves_take (els : List (List Value × List Fv)) (k : Nat) (e : List Value × List Fv) (h : els[k]? = some e) : leaves (els.take (k + 1)) = leaves (els.take k) ++ e.2 := by
  unfold leaves; rw [List.take_add_one, h]; simp
theorem rows_take (rows : List (Value × List Fv)) (k : Nat) (r : Value × List Fv) (h : rows[k]? = some r) : ((rows.take (k + 1)).map (·.2)).flatten = ((rows.take k).map (·.2)).flatten ++ r.2 := by
  rw [List.take_add_one, h]; simp
theorem flatten_take_le (l : List (List Fv)) (k : Nat) : ((l.take k).flatten).length ≤ l.flatten.length := by
  conv => rhs; rw [← List.take_append_drop k l, List.flatten_append, List.length_append]
  omega


end Go.Proofs.YtdpkjhohklfieaaGreatDoor
