/- A row of one's own that grows by one element that was just made; all, in: lists of single values through both doors. -/
import Derived.Test.YtdpkjhohklfieaaGreatDoorO
import Derived.Maps.AppendAt
set_option linter.unusedSimpArgs false
set_option linter.unusedVariables false
namespace Go.Proofs.YtdpkjhohklfieaaGreatDoor
open Go.RowKit
set_option maxRecDepth 100000

theorem cells_new (w : World) (c : Array Value) (t : TypeId) : ∀ j u, c.toList[j]? = some u → (w.alloc (.cells c t)).cell? ((⟨w.heap.size, 0, none⟩ : Addr).add j) = some u := by
  intro j u h
  have hadd : (⟨w.heap.size, 0, none⟩ : Addr).add j = ⟨w.heap.size, j, none⟩ := by unfold Addr.add; split <;> simp_all
  rw [hadd, (Blk.new w t c).cell j]
  simpa using h

theorem wpList_append_box {P : Program} {ops : Array Oper} {rest : List Oper} {o : Oper} {a : Act} {Q : Exit → Act → World → Prop} (W : World) (hgd : o.guard = none) (s x : Operand) (t : TypeId)
    (ho : o.op = .call { callee := .builtin .append, args := #[s, x], argTypes := #[t, t] })
    (base : Nat) (e : TypeId) (z : Value) (size bytes : Nat) (ht : P.underlying t = some (.slice e)) (hinfo : (P.info? e).map (fun i => (i.zero, i.size, i.bytes)) = some (some z, size, bytes))
    (hzs : z.cells.size = size) (hsz : 0 < size)
    (v : Value) (cs : List (List Value)) (hs : a.eval s = v) (hown : Owns W base e size v cs) (c : Array Value) (hc : c.size = size) (cap G : Nat) (hx : a.eval x = .slice (some ⟨G, 0, none⟩) 1 cap) (hG : G = W.heap.size)
    (h1 : ∀ u ∈ c.toList, u.oneCell' = true) (hn : cs.length ≤ 1000000) (hby : bytes ≤ 1000) (hbase : base ≤ W.heap.size)
    (h : ∀ v' w', Owns w' base e size v' (cs ++ [c.toList]) → (W.alloc (.cells c e)).grownBy w' v.ownBlock → (v'.ownBlock = v.ownBlock ∨ v'.ownBlock = some (W.heap.size + 1)) → Below base W w' → wpList P ops Q rest (a.put o.dst v') w') :
    wpList P ops Q (o :: rest) a (W.alloc (.cells c e)) := by
  obtain ⟨i, hi, hz, hsize, hbytes⟩ := info_parts hinfo
  have hlt := hown.1.lt
  subst hG
  refine wpList_append_own_at (P := P) (W.alloc (.cells c e)) hgd s x t ho base e i z size bytes ht hi hz hsize hbytes hzs hsz v cs.length cs.flatten hs (hown.1.alloc _) ⟨W.heap.size, 0, none⟩ 1 cap c.toList hx (by simp [hc]) (cells_new W c e) h1
    (by unfold maxLen; omega) ?_ (by simp only [World.size_alloc]; omega) fun v' w' ho' hg _ hat => ?_
  · calc (cs.length + 1) * bytes ≤ 1000001 * 1000 := Nat.mul_le_mul (by omega) hby
      _ ≤ 140737488355328 := by decide
  · refine h v' w' ⟨by simpa using ho', ?_⟩ hg (by simpa using hat) (((Below.refl _ _).alloc hbase _).grown hg (by simp only [World.size_alloc]; omega) fun k hk => (hlt k hk).1)
    intro c' hc'
    rcases List.mem_append.1 hc' with h' | h'
    · exact hown.2 c' h'
    · simp at h'; subst h'; simpa using hc

theorem infoI : (Tryz.prog.info? 39).map (fun i => (i.zero, i.size, i.bytes)) = some (some (.agg #[.int .i64 0, .float .f64 0, .string ⟨#[]⟩, .slice none 0 0]), 4, 56) := by kernel_rfl
theorem infoA : (Tryz.prog.info? 47).map (fun i => (i.zero, i.size, i.bytes)) = some (some (.agg #[.int .i64 0, .float .f64 0, .string ⟨#[]⟩, .slice none 0 0]), 4, 56) := by kernel_rfl
theorem infoV : (Tryz.prog.info? 26).map (fun i => (i.zero, i.size, i.bytes)) = some (some (.agg #[.int .i64 0, .int .i64 0, .int .i64 0, .string ⟨#[]⟩, .slice none 0 0]), 5, 64) := by kernel_rfl

/-- What a function leaves that makes a new slice with the elements cs. -/
def MadePost (e : TypeId) (size : Nat) (cs : List (List Value)) (w : World) (r : Ending) (w' : World) : Prop :=
  ∃ v, r = .returned v ∧ Owns w' w.heap.size e size v cs ∧ Below w.heap.size w w'

def ofs (L : List Fv) : List (List Value) := L.map fun x => x.of.cells

set_option maxHeartbeats 1000000 in
theorem all_flat (b off c : Nat) (L : List Fv) (w : World) (hok : ∀ x ∈ L, x.Ok) (hrow : Row w b off 5 (L.map Fv.cells)) (hb : b < w.heap.size) (hlen : L.length ≤ 1000) :
    Calls Tryz.prog 16 #[.slice (some ⟨b, off, none⟩) L.length c] w (MadePost 39 4 (ofs L) w) := by
  obtain ⟨n, hn⟩ : ∃ n, n = L.length := ⟨_, rfl⟩
  rw [← hn]
  rw [← hn] at hlen
  have HN := Lib.hid hn
  clear hn
  go_enter Tryz.func16, Tryz.ntmps16
  go_wp2
  go_loopw [3, 4] (fun v i wr => ∃ (k : Nat) (y : Value), k ≤ n ∧ i = .int .i64 k ∧ y = v ∧ Below w.heap.size w wr ∧ Owns wr w.heap.size 39 4 y (ofs (L.take k))) (fun _ i _ => n - (intOf i).toNat)
  case atStart => exact ⟨0, _, Nat.zero_le _, rfl, rfl, Below.refl _ _, Owns.nil_ _ _ _ _⟩
  case round =>
    obtain ⟨k, y, hk, rfl, rfl, hbe, hown⟩ := hrel
    by_cases hlt : k < n
    · have hkl : k < L.length := by rw [← HN.out]; exact hlt
      obtain ⟨x, hx⟩ : ∃ x, L[k]? = some x := ⟨_, List.getElem?_eq_getElem hkl⟩
      have hxok := hok x (List.mem_of_getElem? hx)
      have hR := (hrow.below hbe hb) k x.cells (by simp [hx])
      have c0 : wr.cell? ⟨b, off + k * 5, none⟩ = some (.int .i64 x.k) := hR.2 0 _ rfl
      have c1 : wr.cell? ⟨b, off + k * 5 + 1, none⟩ = some (.int .i64 x.n) := hR.2 1 _ rfl
      have c2 : wr.cell? ⟨b, off + k * 5 + 2, none⟩ = some (.int .i64 x.d) := hR.2 2 _ rfl
      have c3 : wr.cell? ⟨b, off + k * 5 + 3, none⟩ = some (.string x.s) := hR.2 3 _ rfl
      have c4 : wr.cell? ⟨b, off + k * 5 + 4, none⟩ = some (.slice none 0 0) := hR.2 4 _ rfl
      have HX := Lib.hid hx
      have HR := Lib.hid hrow
      have hsz := hbe.size
      clear hx hR hrow hok
      go_wp2_with fail
      refine (of_flat x hxok _).mono ?_
      rintro e w1 ⟨rfl, hb1⟩
      have hz1 := hb1.size
      have hown1 : Owns w1 w.heap.size 39 4 y (ofs (L.take k)) := ⟨hown.1.kept (row := none) ⟨hb1.os, hb1.tape, hb1.output, hb1.size, fun i hi _ => hb1.block i hi⟩ (by cases hv : Value.ownBlock y <;> simp), hown.2⟩
      have hlk : (ofs (L.take k)).length ≤ 1000000 := by unfold ofs; simp; omega
      have hbw1 : Below w.heap.size w w1 := hbe.trans (hb1.mono hsz)
      have hfin : ofs (L.take (k + 1)) = ofs (L.take k) ++ [x.of.cells] := by unfold ofs; rw [List.take_add_one, HX.out]; simp
      have HF := Lib.hid hfin
      clear hfin hown hbe c0 c1 c2 c3 c4
      go_wp2_with (at_builtin; refine wpList_append_box w1 rfl (.tmp 11) (.tmp 17) 40 rfl w.heap.size 39 _ 4 56 Tryz.underlying40 infoI rfl (by decide) y (ofs (L.take k)) (by rfl) (by exact hown1) #[.int .i64 x.of.k, .float .f64 x.of.x, .string x.of.s, .slice none 0 0] rfl 1 _ (by rfl) (by simp) (by intro u hu; simp at hu; rcases hu with rfl | rfl | rfl | rfl <;> rfl) hlk (by decide) (by omega) ?_; intro v' w2 hown2 hg2 hat2 hbe2)
      go_roundw
      case rel => exact ⟨k + 1, _, by omega, by go_num, rfl, hbw1.trans hbe2, by rw [HF.out]; exact hown2⟩
      case measure => simp [intOf]; omega
    · have hkn : k = n := by omega
      subst hkn
      go_wp2
      go_ret
      refine ⟨_, rfl, ?_, hbe⟩
      rw [List.take_of_length_le (by rw [HN.out]; exact Nat.le_refl _)] at hown
      exact hown

def gls (L : List Gl) : List (List Value) := L.map Gl.cells

set_option maxHeartbeats 1000000 in
theorem in_flat (b off c : Nat) (L : List Gl) (w : World) (hrow : Row w b off 4 (gls L)) (hb : b < w.heap.size) (hlen : L.length ≤ 1000) :
    Calls Tryz.prog 22 #[.slice (some ⟨b, off, none⟩) L.length c] w (MadePost 47 4 (gls L) w) := by
  obtain ⟨n, hn⟩ : ∃ n, n = L.length := ⟨_, rfl⟩
  rw [← hn]
  rw [← hn] at hlen
  have HN := Lib.hid hn
  clear hn
  go_enter Tryz.func22, Tryz.ntmps22
  go_wp2
  go_loopw [3, 11] (fun v i wr => ∃ (k : Nat) (y : Value), k ≤ n ∧ i = .int .i64 k ∧ y = v ∧ Below w.heap.size w wr ∧ Owns wr w.heap.size 47 4 y (gls (L.take k))) (fun _ i _ => n - (intOf i).toNat)
  case atStart => exact ⟨0, _, Nat.zero_le _, rfl, rfl, Below.refl _ _, Owns.nil_ _ _ _ _⟩
  case round =>
    obtain ⟨k, y, hk, rfl, rfl, hbe, hown⟩ := hrel
    by_cases hlt : k < n
    · have hkl : k < L.length := by rw [← HN.out]; exact hlt
      obtain ⟨x, hx⟩ : ∃ x, L[k]? = some x := ⟨_, List.getElem?_eq_getElem hkl⟩
      have hR := (hrow.below hbe hb) k x.cells (by simp [gls, hx])
      have c0 : wr.cell? ⟨b, off + k * 4, none⟩ = some (.int .i64 x.k) := hR.2 0 _ rfl
      have c1 : wr.cell? ⟨b, off + k * 4 + 1, none⟩ = some (.float .f64 x.x) := hR.2 1 _ rfl
      have c2 : wr.cell? ⟨b, off + k * 4 + 2, none⟩ = some (.string x.s) := hR.2 2 _ rfl
      have c3 : wr.cell? ⟨b, off + k * 4 + 3, none⟩ = some (.slice none 0 0) := hR.2 3 _ rfl
      have HX := Lib.hid hx
      have HR := Lib.hid hrow
      have hsz := hbe.size
      clear hx hR hrow
      have hlk : (gls (L.take k)).length ≤ 1000000 := by unfold gls; simp; omega
      have hfin : gls (L.take (k + 1)) = gls (L.take k) ++ [x.cells] := by unfold gls; rw [List.take_add_one, HX.out]; simp
      have HF := Lib.hid hfin
      clear hfin
      go_wp2_with fail
      refine wp_loop_rounds 1 ?_
      rw [rounds_succ]
      clear c0 c1 c2 c3
      go_wp2_with (at_builtin; refine wpList_append_box _ rfl (.tmp 37) (.tmp 39) 49 rfl w.heap.size 47 _ 4 56 Tryz.underlying49 infoA rfl (by decide) y (gls (L.take k)) (by rfl) (by exact ⟨(hown.1.alloc _).alloc _, hown.2⟩) #[.int .i64 x.k, .float .f64 x.x, .string x.s, .slice none 0 0] rfl 1 _ (by rfl) (by simp) (by intro u hu; simp at hu; rcases hu with rfl | rfl | rfl | rfl <;> rfl) hlk (by decide) (by simp; omega) ?_; intro v' w2 hown2 hg2 hat2 hbe2)
      have hbw : Below w.heap.size w w2 := ((hbe.alloc hsz _).alloc (by simp; omega) _).trans hbe2
      go_roundw
      case rel => exact ⟨k + 1, _, by omega, by go_num, rfl, hbw, by rw [HF.out]; exact hown2⟩
      case measure => simp [intOf]; omega
    · have hkn : k = n := by omega
      subst hkn
      go_wp2
      go_ret
      refine ⟨_, rfl, ?_, hbe⟩
      rw [List.take_of_length_le (by rw [HN.out]; exact Nat.le_refl _)] at hown
      exact hown

theorem all_nil (w : World) : Calls Tryz.prog 16 #[.slice none 0 0] w fun e w' => e = .returned (.slice none 0 0) ∧ w = w' := by
  go_enter Tryz.func16, Tryz.ntmps16
  go_wp2
  refine wp_loop_rounds 1 ?_
  rw [rounds_succ]
  go_wp2
  go_ret
  exact ⟨rfl, rfl⟩

theorem in_nil (w : World) : Calls Tryz.prog 22 #[.slice none 0 0] w fun e w' => e = .returned (.slice none 0 0) ∧ w = w' := by
  go_enter Tryz.func22, Tryz.ntmps22
  go_wp2
  refine wp_loop_rounds 1 ?_
  rw [rounds_succ]
  go_wp2
  go_ret
  exact ⟨rfl, rfl⟩

end Go.Proofs.YtdpkjhohklfieaaGreatDoor
