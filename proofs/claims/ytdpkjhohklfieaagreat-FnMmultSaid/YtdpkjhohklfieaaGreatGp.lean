/- innerList: values with rows as the package's list of arguments. -/
import Derived.Test.YtdpkjhohklfieaaGreatGn
set_option linter.unusedSimpArgs false
set_option linter.unusedVariables false
namespace Go.Proofs.YtdpkjhohklfieaaGreat
open Go.RowKit
set_option maxRecDepth 100000

/-- PushBack, and which blocks it leaves alone. -/
theorem pushBack_keep (LB : Nat) (es : List Nat) (vs : List Value) (v : Value) (u : TypeId) (w : World) (h : IsList w LB es vs) (hn : es.length ≤ 1000000) :
    Calls Tryz.prog 56 #[.pointer (some ⟨LB, 0, none⟩), .iface u v] w fun e w' => e = .returned (.pointer (some ⟨w.heap.size, 0, none⟩)) ∧
      IsList w' LB (es ++ [w.heap.size]) (vs ++ [.iface u v]) ∧ (∀ B, B ≤ LB → (∀ b ∈ es, B ≤ b) → Below B w w') ∧ w.heap.size < w'.heap.size ∧ Keep (fun k => k < w.heap.size ∧ k ≠ LB ∧ k ∉ es) w w' := by
  have hlt := h.lt
  have key : ∀ (a b c : Addr) (x y z : Value) (o : Obj), (a.block = LB ∨ a.block ∈ es) → b.block = LB → c.block = LB → Keep (fun k => k < w.heap.size ∧ k ≠ LB ∧ k ∉ es) w ((((w.setCell a x).setCell b y).setCell c z).alloc o) := by
    intro a b c x y z o ha hb hc
    refine Keep.trans ((((Keep.refl _ _).set (p := a) ?_ x).set (p := b) ?_ y).set (p := c) ?_ z) (Keep.below ((Below.refl _ _).alloc (Nat.le_refl _) o) fun k hk => by simp only [size_setCell]; exact hk.1)
    · rintro k ⟨_, h1, h2⟩ rfl
      rcases ha with ha | ha
      · exact h1 ha
      · exact h2 ha
    · rintro k ⟨_, h1, _⟩ rfl
      exact h1 hb
    · rintro k ⟨_, h1, _⟩ rfl
      exact h1 hc
  rcases hes : es.getLast? with _ | last
  · have hnil : es = [] := by simpa using hes
    subst hnil
    have hvs : vs = [] := by have := h.len; simpa using this.symm
    subst hvs
    refine (pushBack_empty LB v u w hlt (h.root.cell 0) (h.root.cell 1) (h.root.cell 4) (h.root.free 0) (h.root.free 1) (h.root.free 4)).mono fun e w' ⟨he, hw⟩ => ?_
    subst hw
    exact ⟨he, h.push_empty _, fun B hB _ => (((((Below.refl _ _).setCell (p := ⟨LB, 0, none⟩) hB _).setCell (p := ⟨LB, 1, none⟩) hB _).setCell (p := ⟨LB, 4, none⟩) hB _).alloc (by simp only [size_setCell]; omega) _), by simp [size_setCell], key _ _ _ _ _ _ _ (.inl rfl) rfl rfl⟩
  · have hmem : last ∈ es := List.mem_of_getLast? hes
    have hnil : es ≠ [] := by rintro rfl; simp at hes
    have hpos : 0 < es.length := List.length_pos_iff.2 hnil
    have hlast' : es[es.length - 1]? = some last := by rw [← List.getLast?_eq_getElem?]; exact hes
    obtain ⟨v', hv'⟩ := h.val _ _ hlast'
    obtain ⟨q, hq⟩ := h.node _ _ _ hlast' hv'
    have hnx : es.getD (es.length - 1 + 1) LB = LB := by rw [List.getD_eq_getElem?_getD, List.getElem?_eq_none (by omega)]; rfl
    rw [hnx] at hq
    have h1 := h.root.cell 1
    rw [show es.getLastD LB = last by rw [List.getLastD_eq_getLast?, hes]; rfl] at h1
    refine (pushBack_more LB last es.length _ v u w hlt hq.lt (h.ne last hmem).symm (h.root.cell 0) h1 (h.root.cell 4) (h.root.free 0) (h.root.free 1) (h.root.free 4) hn (hq.cell 0) (hq.free 0)).mono fun e w' ⟨he, hw⟩ => ?_
    subst hw
    exact ⟨he, h.push_more last hes _, fun B hB hes' => (((((Below.refl _ _).setCell (p := ⟨last, 0, none⟩) (hes' last hmem) _).setCell (p := ⟨LB, 1, none⟩) hB _).setCell (p := ⟨LB, 4, none⟩) hB _).alloc (by simp only [size_setCell]; omega) _), by simp [size_setCell], key _ _ _ _ _ _ _ (.inr hmem) rfl rfl⟩

theorem innerArg_any (v : Vg) (m : Mg) (w : World) (hv : GIs w (· < w.heap.size) v m) (hm : m.Ok) :
    Calls Tryz.prog 57 #[(.agg #[.int .i64 v.g.k, .float .f64 v.g.x, .string v.g.s, .slice v.A v.m v.c])] w fun e w' => ∃ f, e = .returned f ∧ FIs w' (New w.heap.size w') f m ∧ Below w.heap.size w w' := by
  obtain ⟨x, A, n, c⟩ := v
  obtain ⟨y, rows⟩ := m
  obtain ⟨hx, ⟨hk, hr, hA, hn, hc⟩ | ⟨hk, hr⟩⟩ := hv
  · simp only at hx hk hr hA hn hc
    subst hx hr hA hn hc
    refine (innerArg_flat x (hm.1 hk) w).mono ?_
    rintro e w1 ⟨rfl, hb1⟩
    exact ⟨_, rfl, .inl ⟨hk, rfl, rfl⟩, hb1⟩
  · simp only at hx hk hr
    subst hx hk
    refine (innerArg_mat A n c rows w hr hm.2.1 hm.2.2).mono ?_
    rintro e w1 ⟨f, rfl, h1, hb1⟩
    exact ⟨f, rfl, h1, hb1⟩

def facesF (G : List Value) : List Value := G.map fun f => .iface 67 f
/-- The package's list of arguments. -/
def ListOut (w : World) (LB : Nat) (M : List Mg) : Prop := ∃ es G, IsList w LB es (facesF G) ∧ KF.all w (· < w.heap.size) G M

/-- While the list grows. -/
def ListAtE (w wr : World) (M : List Mg) (es : List Nat) (G : List Value) : Prop :=
  IsList wr w.heap.size es (facesF G) ∧ (∀ x ∈ es, w.heap.size < x) ∧ KF.all wr (fun k => w.heap.size < k ∧ k < wr.heap.size ∧ k ∉ es) G M ∧ Below w.heap.size w wr
def ListAt (w wr : World) (M : List Mg) : Prop := ∃ es G, ListAtE w wr M es G
theorem ListAtE.below {w wr w1 : World} {M : List Mg} {es : List Nat} {G : List Value} (h : ListAtE w wr M es G) (hb : Below wr.heap.size wr w1) : ListAtE w w1 M es G := by
  obtain ⟨h1, h2, h3, h4⟩ := h
  exact ⟨h1.below hb, h2, (h3.keep (Keep.below hb fun k hk => hk.2.1)).more fun k hk => ⟨hk.1, Nat.lt_of_lt_of_le hk.2.1 hb.size, hk.2.2⟩, h4.trans (hb.mono h4.size)⟩
theorem IsList.elt {w : World} {LB : Nat} {es : List Nat} {vs : List Value} (h : IsList w LB es vs) : ∀ x ∈ es, x < w.heap.size := by
  intro x hx
  obtain ⟨i, hi⟩ := List.getElem?_of_mem hx
  obtain ⟨v, hv⟩ := h.val i x hi
  obtain ⟨q, hq⟩ := h.node i x v hi hv
  exact hq.lt

set_option maxHeartbeats 1000000 in
theorem innerList_any (b n c : Nat) (G : List Vg) (M : List Mg) (w : World) (hn : n = M.length) (hargs : ArgsOut w b G M) (hlen : n ≤ 1000) (hok : ∀ m ∈ M, m.Ok) :
    Calls Tryz.prog 30 #[.slice (some ⟨b, 0, none⟩) n c] w fun e w' => e = .returned (.pointer (some ⟨w.heap.size, 0, none⟩)) ∧ ListOut w' w.heap.size M ∧ Below w.heap.size w w' := by
  have HN := Lib.hid hn
  have HA := Lib.hid hargs
  have HO := Lib.hid hok
  have hb := hargs.1
  clear hn hargs hok
  go_enter Tryz.func30, Tryz.ntmps30
  go_wp2_with (go_at_call 55; refine (new_any _).mono ?_; rintro e w1 ⟨rfl, rfl⟩)
  go_loopw [9] (fun i wr => ∃ k : Nat, k ≤ n ∧ i = .int .i64 k ∧ ListAt w wr (M.take k)) (fun i _ => n - (intOf i).toNat)
  case atStart => exact ⟨0, Nat.zero_le _, rfl, [], [], IsList.new w, by simp, ⟨rfl, by simp⟩, (Below.refl _ _).alloc (Nat.le_refl _) _⟩
  case round =>
    obtain ⟨k, hk, rfl, hat⟩ := hrel
    have HL := Lib.hid hat
    have hbe : Below w.heap.size w wr := by obtain ⟨_, _, _, _, _, h⟩ := hat; exact h
    have hLB : w.heap.size < wr.heap.size := by obtain ⟨_, _, h, _⟩ := hat; exact h.lt
    clear hat
    by_cases hlt : k < n
    · obtain ⟨m, hm⟩ : ∃ m, M[k]? = some m := ⟨_, List.getElem?_eq_getElem (by rw [← HN.out]; exact hlt)⟩
      obtain ⟨v, hv⟩ : ∃ v, G[k]? = some v := ⟨_, List.getElem?_eq_getElem (by rw [HA.out.2.2.1, ← HN.out]; exact hlt)⟩
      have hR := (HA.out.2.1.below hbe hb) k v.cells (by simp [hv])
      have c0 : wr.cell? ⟨b, k * 4, none⟩ = some (.int .i64 v.g.k) := by simpa using hR.2 0 _ rfl
      have c1 : wr.cell? ⟨b, k * 4 + 1, none⟩ = some (.float .f64 v.g.x) := by simpa using hR.2 1 _ rfl
      have c2 : wr.cell? ⟨b, k * 4 + 2, none⟩ = some (.string v.g.s) := by simpa using hR.2 2 _ rfl
      have c3 : wr.cell? ⟨b, k * 4 + 3, none⟩ = some (.slice v.A v.m v.c) := by simpa using hR.2 3 _ rfl
      have hbx := hbe.trans (((Below.refl _ wr).alloc (Nat.le_refl _) (.cells #[.int .i64 v.g.k, .float .f64 v.g.x, .string v.g.s, .slice v.A v.m v.c] 49)).mono hbe.size)
      have hG : GIs (wr.alloc (.cells #[.int .i64 v.g.k, .float .f64 v.g.x, .string v.g.s, .slice v.A v.m v.c] 49)) (· < (wr.alloc (.cells #[.int .i64 v.g.k, .float .f64 v.g.x, .string v.g.s, .slice v.A v.m v.c] 49)).heap.size) v m :=
        KG.more (KG.keep (HA.out.2.2.2 k v m hv hm) (Keep.below hbx fun _ hk => hk)) fun _ hk => Nat.lt_of_lt_of_le hk hbx.size
      have HG := Lib.hid (And.intro hG (HO.out m (List.mem_of_getElem? hm)))
      have HX := Lib.hid hm
      obtain ⟨es, G', hle⟩ := HL.out
      have hesl := hle.1.elt
      have HL1 := Lib.hid (hle.below ((Below.refl _ _).alloc (Nat.le_refl _) (.cells #[.int .i64 v.g.k, .float .f64 v.g.x, .string v.g.s, .slice v.A v.m v.c] 49)))
      have HESL := Lib.hid hesl
      clear hm hv hR hbx hG hle hesl
      go_wp2_with fail
      refine (innerArg_any v m _ HG.out.1 HG.out.2).mono ?_
      rintro e w1 ⟨f, rfl, hf, hb1⟩
      obtain ⟨hl, hes, hall, hbw⟩ := HL1.out.below hb1
      have hel : es.length = k := by
        have h1 := hl.len
        rw [facesF, List.length_map, hall.1] at h1
        rw [h1]; simp; have := HN.out; omega
      have HEL := Lib.hid hel
      have HALL := Lib.hid (And.intro hes (And.intro hall (And.intro hbw (And.intro hf hb1))))
      have hz1 := hb1.size
      simp only [World.size_alloc] at hz1
      clear hel hes hall hbw hf hb1 c0 c1 c2 c3
      go_wp2_with fail
      refine (pushBack_keep w.heap.size es _ _ _ w1 hl (by rw [HEL.out]; omega)).mono ?_
      rintro e w2 ⟨rfl, hl2, hb2, hz2, hk2⟩
      have hfin : ListAt w w2 (M.take (k + 1)) := by
        obtain ⟨hes, hall, hbw, hf, hb1⟩ := HALL.out
        refine ⟨es ++ [w1.heap.size], G' ++ [f], by unfold facesF at hl2 ⊢; rw [List.map_append]; exact hl2, ?_, ?_, hbw.trans (hb2 _ (Nat.le_refl _) fun x hx => Nat.le_of_lt (hes x hx))⟩
        · intro x hx
          rcases List.mem_append.1 hx with hx | hx
          · exact hes x hx
          · simp at hx; subst hx; omega
        · rw [List.take_add_one, HX.out]
          refine (Kind.all.snoc hall (KF.more hf fun q hq => ⟨by have := hq.1; simp only [World.size_alloc] at this; omega, hq.2, fun hqe => ?_⟩)).keep (S := fun k => w.heap.size < k ∧ k < w1.heap.size ∧ k ∉ es) (fun q hq => hk2 q ⟨hq.2.1, by have := hq.1; omega, hq.2.2⟩) |>.more fun q hq => ⟨hq.1, by have := hq.2.1; omega, fun hqe => ?_⟩
          · have h1 := hq.1
            have h2 := HESL.out q hqe
            simp only [World.size_alloc] at h1
            omega
          · rcases List.mem_append.1 hqe with h | h
            · exact hq.2.2 h
            · simp at h; have := hq.2.1; omega
      have HF := Lib.hid hfin
      clear hfin hl2 hb2 hk2 hl HALL
      go_wp2
      go_roundw
      case rel => exact ⟨k + 1, by omega, by go_num, HF.out⟩
      case measure => simp [intOf]; omega
    · have hkn : k = n := by omega
      subst hkn
      go_wp2
      go_ret
      obtain ⟨es, G', h1, _, h3, h4⟩ := HL.out
      rw [List.take_of_length_le (by rw [HN.out]; exact Nat.le_refl _)] at h3
      exact ⟨rfl, ⟨es, G', h1, h3.more fun q hq => hq.2.1⟩, h4⟩

end Go.Proofs.YtdpkjhohklfieaaGreat
