/- A block known whole; a list of container/list as a chain of blocks; what New, Init, PushBack do to it. -/
import Derived.Test.YtdpkjhohklfieaaGreatDoorB
set_option linter.unusedSimpArgs false
set_option linter.unusedVariables false
namespace Go.Proofs.YtdpkjhohklfieaaGreatDoor
open Go.RowKit
set_option maxRecDepth 100000

/-- Block g holds just the cells cs of element type t; none is frozen. -/
def Blk (w : World) (g : Nat) (t : TypeId) (cs : Array Value) : Prop := w.heap[g]? = some (.cells cs t (0, 0))

section
variable {w w' : World} {g : Nat} {t : TypeId} {cs : Array Value}
theorem Blk.lt (h : Blk w g t cs) : g < w.heap.size := by
  rcases Nat.lt_or_ge g w.heap.size with hlt | hge
  · exact hlt
  · unfold Blk at h; rw [Array.getElem?_eq_none hge] at h; cases h
theorem Blk.cell (h : Blk w g t cs) (i : Nat) : w.cell? ⟨g, i, none⟩ = cs[i]? := cell_of_row w g i cs t (0, 0) h
theorem Blk.free (h : Blk w g t cs) (i : Nat) : w.frozen? ⟨g, i, none⟩ = false := by
  unfold Blk at h
  simp [World.frozen?, h]
theorem Blk.new (w : World) (t : TypeId) (cs : Array Value) : Blk (w.alloc (.cells cs t)) w.heap.size t cs := heap_alloc_new w _
theorem Blk.alloc (h : Blk w g t cs) (o : Obj) : Blk (w.alloc o) g t cs := (Below.heap_alloc w o g h.lt).trans h
theorem Blk.put (h : Blk w g t cs) (i : Nat) (u : Value) : Blk (w.setCell ⟨g, i, none⟩ u) g t (cs.setIfInBounds i u) := by
  unfold Blk at h ⊢
  simp [World.setCell, Array.getElem?_modify, h]
theorem Blk.far (h : Blk w g t cs) {p : Addr} (hp : g ≠ p.block) (u : Value) : Blk (w.setCell p u) g t cs := (Below.heap_setCell w p u g hp).trans h
theorem Blk.below {B : Nat} (h : Blk w g t cs) (hb : Below B w w') (hg : g < B) : Blk w' g t cs := (hb.block g hg).trans h
theorem Blk.ne {g' : Nat} {t' : TypeId} {cs' : Array Value} (h : Blk w g t cs) (h' : Blk w g' t' cs') (hne : t ≠ t') : g ≠ g' := by
  rintro rfl
  unfold Blk at h h'
  rw [h] at h'
  injection h' with h'
  injection h' with _ ht
  exact hne ht
theorem Blk.same {t' : TypeId} {cs' : Array Value} (h : Blk w g t cs) (h' : Blk w g t' cs') : cs = cs' := by
  unfold Blk at h h'
  rw [h] at h'
  injection h' with h'
  injection h'
end

/-- A list (container/list) whose head lies in block LB, its elements in the blocks es, with the values vs. -/
structure IsList (w : World) (LB : Nat) (es : List Nat) (vs : List Value) : Prop where
  len : es.length = vs.length
  root : Blk w LB 86 #[.pointer (some ⟨es.headD LB, 0, none⟩), .pointer (some ⟨es.getLastD LB, 0, none⟩), .pointer none, .nilIface, .int .i64 (es.length : Nat)]
  node : ∀ i b v, es[i]? = some b → vs[i]? = some v → ∃ q, Blk w b 75 #[.pointer (some ⟨es.getD (i + 1) LB, 0, none⟩), q, .pointer (some ⟨LB, 0, none⟩), v]

theorem IsList.lt {w : World} {LB : Nat} {es : List Nat} {vs : List Value} (h : IsList w LB es vs) : LB < w.heap.size := h.root.lt

theorem IsList.below {w w' : World} {LB : Nat} {es : List Nat} {vs : List Value} (h : IsList w LB es vs) (hb : Below w.heap.size w w') : IsList w' LB es vs :=
  ⟨h.len, h.root.below hb h.root.lt, fun i b v hi hv => by obtain ⟨q, hq⟩ := h.node i b v hi hv; exact ⟨q, hq.below hb hq.lt⟩⟩

theorem IsList.val {w : World} {LB : Nat} {es : List Nat} {vs : List Value} (h : IsList w LB es vs) (i b : Nat) (hi : es[i]? = some b) : ∃ v, vs[i]? = some v := by
  have : i < vs.length := by rw [← h.len]; exact (List.getElem?_eq_some_iff.1 hi).1
  exact ⟨_, List.getElem?_eq_getElem this⟩

theorem IsList.ne {w : World} {LB : Nat} {es : List Nat} {vs : List Value} (h : IsList w LB es vs) (b : Nat) (hb : b ∈ es) : LB ≠ b := by
  obtain ⟨i, hi⟩ := List.getElem?_of_mem hb
  obtain ⟨v, hv⟩ := h.val i b hi
  obtain ⟨q, hq⟩ := h.node i b v hi hv
  exact h.root.ne hq (by decide)

theorem IsList.new (w : World) : IsList (w.alloc (.cells #[.pointer (some ⟨w.heap.size, 0, none⟩), .pointer (some ⟨w.heap.size, 0, none⟩), .pointer none, .nilIface, .int .i64 0] 86)) w.heap.size [] [] :=
  ⟨rfl, Blk.new w _ _, fun i b v hi => by simp at hi⟩

/-- One more element behind an empty list. -/
theorem IsList.push_empty {w : World} {LB : Nat} {vs : List Value} (h : IsList w LB [] vs) (v : Value) :
    IsList ((((w.setCell ⟨LB, 0, none⟩ (.pointer (some ⟨w.heap.size, 0, none⟩))).setCell ⟨LB, 1, none⟩ (.pointer (some ⟨w.heap.size, 0, none⟩))).setCell ⟨LB, 4, none⟩ (.int .i64 1)).alloc
      (.cells #[.pointer (some ⟨LB, 0, none⟩), .pointer (some ⟨LB, 0, none⟩), .pointer (some ⟨LB, 0, none⟩), v] 75)) LB [w.heap.size] [v] := by
  refine ⟨rfl, ?_, fun i b u hi hu => ?_⟩
  · have := (((h.root.put 0 (.pointer (some ⟨w.heap.size, 0, none⟩))).put 1 (.pointer (some ⟨w.heap.size, 0, none⟩))).put 4 (.int .i64 1)).alloc (.cells #[.pointer (some ⟨LB, 0, none⟩), .pointer (some ⟨LB, 0, none⟩), .pointer (some ⟨LB, 0, none⟩), v] 75)
    simpa using this
  · match i, hi, hu with
    | 0, hi, hu =>
      simp at hi hu
      subst hi; subst hu
      refine ⟨.pointer (some ⟨LB, 0, none⟩), ?_⟩
      have := Blk.new (((w.setCell ⟨LB, 0, none⟩ (.pointer (some ⟨w.heap.size, 0, none⟩))).setCell ⟨LB, 1, none⟩ (.pointer (some ⟨w.heap.size, 0, none⟩))).setCell ⟨LB, 4, none⟩ (.int .i64 1)) 75 #[.pointer (some ⟨LB, 0, none⟩), .pointer (some ⟨LB, 0, none⟩), .pointer (some ⟨LB, 0, none⟩), v]
      simp only [size_setCell] at this
      simpa using this
    | i + 1, hi, hu => simp at hi

/-- One more element behind a list that has some. -/
theorem IsList.push_more {w : World} {LB : Nat} {es : List Nat} {vs : List Value} (h : IsList w LB es vs) (last : Nat) (hlast : es.getLast? = some last) (v : Value) :
    IsList ((((w.setCell ⟨last, 0, none⟩ (.pointer (some ⟨w.heap.size, 0, none⟩))).setCell ⟨LB, 1, none⟩ (.pointer (some ⟨w.heap.size, 0, none⟩))).setCell ⟨LB, 4, none⟩ (.int .i64 ((es.length : Int) + 1))).alloc
      (.cells #[.pointer (some ⟨LB, 0, none⟩), .pointer (some ⟨last, 0, none⟩), .pointer (some ⟨LB, 0, none⟩), v] 75)) LB (es ++ [w.heap.size]) (vs ++ [v]) := by
  have hmem : last ∈ es := List.mem_of_getLast? hlast
  have hne := h.ne last hmem
  have hnil : es ≠ [] := by rintro rfl; simp at hlast
  have hpos : 0 < es.length := List.length_pos_iff.2 hnil
  have hlast' : es[es.length - 1]? = some last := by rw [← List.getLast?_eq_getElem?]; exact hlast
  have hlv := h.len
  refine ⟨by simp [hlv], ?_, fun i b u hi hu => ?_⟩
  · have := (((h.root.far (p := ⟨last, 0, none⟩) hne (.pointer (some ⟨w.heap.size, 0, none⟩))).put 1 (.pointer (some ⟨w.heap.size, 0, none⟩))).put 4 (.int .i64 ((es.length : Int) + 1))).alloc
      (.cells #[.pointer (some ⟨LB, 0, none⟩), .pointer (some ⟨last, 0, none⟩), .pointer (some ⟨LB, 0, none⟩), v] 75)
    rw [show (es ++ [w.heap.size]).getLastD LB = w.heap.size by rw [List.getLastD_eq_getLast?]; simp]
    obtain ⟨a, r, rfl⟩ := List.exists_cons_of_ne_nil hnil
    simpa using this
  · rcases Nat.lt_trichotomy i (es.length - 1) with hlt | heq | hgt
    · -- an element ahead of the last one
      have hi' : es[i]? = some b := by rwa [List.getElem?_append_left (by omega)] at hi
      have hu' : vs[i]? = some u := by rwa [List.getElem?_append_left (by omega)] at hu
      obtain ⟨q, hq⟩ := h.node i b u hi' hu'
      have hbl : b ≠ last := by
        rintro rfl
        obtain ⟨v', hv'⟩ := h.val _ _ hlast'
        obtain ⟨q', hq'⟩ := h.node _ _ _ hlast' hv'
        have e := hq.same hq'
        have e1 : es.getD (i + 1) LB = LB := by
          have := congrArg (fun a : Array Value => a[0]?) e
          simp only [Array.getElem?_eq_getElem, List.size_toArray, List.length_cons, Nat.zero_lt_succ, List.getElem_toArray, List.getElem_cons_zero, Option.some.injEq, Value.pointer.injEq, Addr.mk.injEq] at this
          rw [this.1]
          rw [List.getD_eq_getElem?_getD, List.getElem?_eq_none (by omega)]; rfl
        rw [List.getD_eq_getElem?_getD, List.getElem?_eq_getElem (by omega)] at e1
        exact h.ne _ (List.getElem_mem (by omega)) e1.symm
      refine ⟨q, ?_⟩
      have := (((hq.far (p := ⟨last, 0, none⟩) hbl (.pointer (some ⟨w.heap.size, 0, none⟩))).far (p := ⟨LB, 1, none⟩) (h.ne b (List.mem_of_getElem? hi')).symm (.pointer (some ⟨w.heap.size, 0, none⟩))).far (p := ⟨LB, 4, none⟩) (h.ne b (List.mem_of_getElem? hi')).symm (.int .i64 ((es.length : Int) + 1))).alloc
        (.cells #[.pointer (some ⟨LB, 0, none⟩), .pointer (some ⟨last, 0, none⟩), .pointer (some ⟨LB, 0, none⟩), v] 75)
      rw [show (es ++ [w.heap.size]).getD (i + 1) LB = es.getD (i + 1) LB by simp only [List.getD_eq_getElem?_getD]; rw [List.getElem?_append_left (by omega)]]
      exact this
    · -- the one that was the last
      subst heq
      have hi' : es[es.length - 1]? = some b := by rwa [List.getElem?_append_left (by omega)] at hi
      have hu' : vs[es.length - 1]? = some u := by rwa [List.getElem?_append_left (by omega)] at hu
      have hb : b = last := by rw [hlast'] at hi'; exact (Option.some.inj hi').symm
      subst hb
      obtain ⟨q, hq⟩ := h.node _ _ _ hi' hu'
      refine ⟨q, ?_⟩
      have := (((hq.put 0 (.pointer (some ⟨w.heap.size, 0, none⟩))).far (p := ⟨LB, 1, none⟩) hne.symm (.pointer (some ⟨w.heap.size, 0, none⟩))).far (p := ⟨LB, 4, none⟩) hne.symm (.int .i64 ((es.length : Int) + 1))).alloc
        (.cells #[.pointer (some ⟨LB, 0, none⟩), .pointer (some ⟨b, 0, none⟩), .pointer (some ⟨LB, 0, none⟩), v] 75)
      rw [show (es ++ [w.heap.size]).getD (es.length - 1 + 1) LB = w.heap.size by simp only [List.getD_eq_getElem?_getD]; rw [Nat.sub_add_cancel (by omega)]; simp]
      simpa using this
    · -- the new one
      have hie : i = es.length := by
        have := (List.getElem?_eq_some_iff.1 hi).1
        simp at this; omega
      subst hie
      have hb : b = w.heap.size := by simp at hi; exact hi.symm
      have hv : u = v := by rw [hlv] at hu; simp at hu; exact hu.symm
      subst hb; subst hv
      refine ⟨.pointer (some ⟨last, 0, none⟩), ?_⟩
      have := Blk.new (((w.setCell ⟨last, 0, none⟩ (.pointer (some ⟨w.heap.size, 0, none⟩))).setCell ⟨LB, 1, none⟩ (.pointer (some ⟨w.heap.size, 0, none⟩))).setCell ⟨LB, 4, none⟩ (.int .i64 ((es.length : Int) + 1))) 75 #[.pointer (some ⟨LB, 0, none⟩), .pointer (some ⟨last, 0, none⟩), .pointer (some ⟨LB, 0, none⟩), u]
      simp only [size_setCell] at this
      rw [show (es ++ [w.heap.size]).getD (es.length + 1) LB = LB by simp only [List.getD_eq_getElem?_getD]; rw [List.getElem?_eq_none (by simp)]; rfl]
      exact this

theorem lazyInit_any (LB : Nat) (p : Addr) (w : World) (h0 : w.cell? ⟨LB, 0, none⟩ = some (.pointer (some p))) :
    Calls Tryz.prog 54 #[.pointer (some ⟨LB, 0, none⟩)] w fun e w' => e = .returned (.tuple #[]) ∧ w = w' := by
  go_enter Tryz.func54, Tryz.ntmps54
  go_wp2
  go_end0
  exact ⟨rfl, rfl⟩

theorem new_any (w : World) :
    Calls Tryz.prog 41 #[] w fun e w' => e = .returned (.pointer (some ⟨w.heap.size, 0, none⟩)) ∧ w' = w.alloc (.cells #[.pointer (some ⟨w.heap.size, 0, none⟩), .pointer (some ⟨w.heap.size, 0, none⟩), .pointer none, .nilIface, .int .i64 0] 86) := by
  go_enter Tryz.func41, Tryz.ntmps41
  go_wp2
  go_ret
  exact ⟨rfl, rfl⟩

theorem pushBack_empty (LB : Nat) (v : Value) (u : TypeId) (w : World) (hLB : LB < w.heap.size) (h0 : w.cell? ⟨LB, 0, none⟩ = some (.pointer (some ⟨LB, 0, none⟩))) (h1 : w.cell? ⟨LB, 1, none⟩ = some (.pointer (some ⟨LB, 0, none⟩)))
   (h4 : w.cell? ⟨LB, 4, none⟩ = some (.int .i64 0)) (f0 : w.frozen? ⟨LB, 0, none⟩ = false) (f1 : w.frozen? ⟨LB, 1, none⟩ = false) (f4 : w.frozen? ⟨LB, 4, none⟩ = false) :
    Calls Tryz.prog 42 #[.pointer (some ⟨LB, 0, none⟩), .iface u v] w fun e w' => e = .returned (.pointer (some ⟨w.heap.size, 0, none⟩)) ∧
      w' = (((w.setCell ⟨LB, 0, none⟩ (.pointer (some ⟨w.heap.size, 0, none⟩))).setCell ⟨LB, 1, none⟩ (.pointer (some ⟨w.heap.size, 0, none⟩))).setCell ⟨LB, 4, none⟩ (.int .i64 1)).alloc
        (.cells #[.pointer (some ⟨LB, 0, none⟩), .pointer (some ⟨LB, 0, none⟩), .pointer (some ⟨LB, 0, none⟩), .iface u v] 75) := by
  go_enter Tryz.func42, Tryz.ntmps42
  go_wp2_with (first | (go_at_call 54; refine (lazyInit_any _ _ _ h0).mono ?_; rintro e w1 ⟨rfl, rfl⟩) | go_in)
  go_ret
  exact ⟨rfl, rfl⟩

theorem pushBack_more (LB last n : Nat) (q : Addr) (v : Value) (u : TypeId) (w : World) (hLB : LB < w.heap.size) (hla : last < w.heap.size) (hne : last ≠ LB) (h0 : w.cell? ⟨LB, 0, none⟩ = some (.pointer (some q))) (h1 : w.cell? ⟨LB, 1, none⟩ = some (.pointer (some ⟨last, 0, none⟩)))
   (h4 : w.cell? ⟨LB, 4, none⟩ = some (.int .i64 n)) (f0 : w.frozen? ⟨LB, 0, none⟩ = false) (f1 : w.frozen? ⟨LB, 1, none⟩ = false) (f4 : w.frozen? ⟨LB, 4, none⟩ = false)
   (hn : n ≤ 1000000) (k0 : w.cell? ⟨last, 0, none⟩ = some (.pointer (some ⟨LB, 0, none⟩))) (g0 : w.frozen? ⟨last, 0, none⟩ = false) :
    Calls Tryz.prog 42 #[.pointer (some ⟨LB, 0, none⟩), .iface u v] w fun e w' => e = .returned (.pointer (some ⟨w.heap.size, 0, none⟩)) ∧
      w' = (((w.setCell ⟨last, 0, none⟩ (.pointer (some ⟨w.heap.size, 0, none⟩))).setCell ⟨LB, 1, none⟩ (.pointer (some ⟨w.heap.size, 0, none⟩))).setCell ⟨LB, 4, none⟩ (.int .i64 ((n : Int) + 1))).alloc
        (.cells #[.pointer (some ⟨LB, 0, none⟩), .pointer (some ⟨last, 0, none⟩), .pointer (some ⟨LB, 0, none⟩), .iface u v] 75) := by
  have hne' : LB ≠ last := fun h => hne h.symm
  go_enter Tryz.func42, Tryz.ntmps42
  go_wp2_with (first | (go_at_call 54; refine (lazyInit_any _ _ _ h0).mono ?_; rintro e w1 ⟨rfl, rfl⟩) | go_in)
  go_ret
  exact ⟨rfl, rfl⟩

/-- PushBack: the list has one element more; all else from a bound below the list's blocks is as it was. -/
theorem pushBack_any (LB : Nat) (es : List Nat) (vs : List Value) (v : Value) (u : TypeId) (w : World) (h : IsList w LB es vs) (hn : es.length ≤ 1000000) :
    Calls Tryz.prog 42 #[.pointer (some ⟨LB, 0, none⟩), .iface u v] w fun e w' => e = .returned (.pointer (some ⟨w.heap.size, 0, none⟩)) ∧
      IsList w' LB (es ++ [w.heap.size]) (vs ++ [.iface u v]) ∧ ∀ B, B ≤ LB → (∀ b ∈ es, B ≤ b) → Below B w w' := by
  have hlt := h.lt
  rcases hes : es.getLast? with _ | last
  · have hnil : es = [] := by simpa using hes
    subst hnil
    have hvs : vs = [] := by have := h.len; simpa using this.symm
    subst hvs
    refine (pushBack_empty LB v u w hlt (h.root.cell 0) (h.root.cell 1) (h.root.cell 4) (h.root.free 0) (h.root.free 1) (h.root.free 4)).mono fun e w' ⟨he, hw⟩ => ?_
    subst hw
    exact ⟨he, h.push_empty _, fun B hB _ => (((((Below.refl _ _).setCell (p := ⟨LB, 0, none⟩) hB _).setCell (p := ⟨LB, 1, none⟩) hB _).setCell (p := ⟨LB, 4, none⟩) hB _).alloc (by simp only [size_setCell]; omega) _)⟩
  · have hmem : last ∈ es := List.mem_of_getLast? hes
    have hnil : es ≠ [] := by rintro rfl; simp at hes
    have hpos : 0 < es.length := List.length_pos_iff.2 hnil
    have hlast' : es[es.length - 1]? = some last := by rw [← List.getLast?_eq_getElem?]; exact hes
    obtain ⟨v', hv'⟩ := h.val _ _ hlast'
    obtain ⟨q, hq⟩ := h.node _ _ _ hlast' hv'
    have hnx : es.getD (es.length - 1 + 1) LB = LB := by rw [List.getD_eq_getElem?_getD, List.getElem?_eq_none (by omega)]; rfl
    rw [hnx] at hq
    have h1 := h.root.cell 1
    rw [show es.getLastD LB = last by rw [List.getLastD_eq_getLast?, hes]; rfl] at h1
    refine (pushBack_more LB last es.length _ v u w hlt hq.lt (h.ne last hmem).symm (h.root.cell 0) h1 (h.root.cell 4) (h.root.free 0) (h.root.free 1) (h.root.free 4) hn (hq.cell 0) (hq.free 0)).mono fun e w' ⟨he, hw⟩ => ?_
    subst hw
    exact ⟨he, h.push_more last hes _, fun B hB hes' => (((((Below.refl _ _).setCell (p := ⟨last, 0, none⟩) (hes' last hmem) _).setCell (p := ⟨LB, 1, none⟩) hB _).setCell (p := ⟨LB, 4, none⟩) hB _).alloc (by simp only [size_setCell]; omega) _)⟩

end Go.Proofs.YtdpkjhohklfieaaGreatDoor
