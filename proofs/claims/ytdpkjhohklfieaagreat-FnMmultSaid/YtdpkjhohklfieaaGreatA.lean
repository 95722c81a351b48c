/- Contracts of the small functions that make one value (of the reference, of the thin package, of the package): what each returns, and that it writes nothing that was there. -/
import Derived.Test.YtdpkjhohklfieaaGreatProg
import Derived.Test.YtdpkjhohklfieaaGreatFl
import Derived.WalkKit
import Derived.WalkSpells
import Derived.WalkLawsBesides
set_option linter.unusedSimpArgs false
set_option linter.unusedVariables false
namespace Go.Proofs.YtdpkjhohklfieaaGreat
open Go.RowKit
set_option maxRecDepth 100000

@[go_sem] theorem run_store_float (P : Program) (w : World) (a : Addr) (m : Mode) (k : FloatKind) (b : Nat) : (store a (.float k b) m).run P w = stored P w a (.float k b) m := run_store P w a _ m rfl
@[go_sem] theorem run_store_nilIface (P : Program) (w : World) (a : Addr) (m : Mode) : (store a .nilIface m).run P w = stored P w a .nilIface m := run_store P w a _ m rfl
@[go_sem] theorem run_store_iface (P : Program) (w : World) (a : Addr) (m : Mode) (t : TypeId) (v : Value) : (store a (.iface t v) m).run P w = stored P w a (.iface t v) m := run_store P w a _ m rfl

/-- What a contract that ends in 'Below' gives the walk: old cells and old marks read as before; no block has gone. -/
theorem bcell {W w1 : World} (hb : Below W.heap.size W w1) : (∀ b o, b < W.heap.size → w1.cell? ⟨b, o, none⟩ = W.cell? ⟨b, o, none⟩) ∧ (∀ b o, b < W.heap.size → w1.frozen? ⟨b, o, none⟩ = W.frozen? ⟨b, o, none⟩) ∧ W.heap.size ≤ w1.heap.size :=
  ⟨fun b o h => hb.cell (p := ⟨b, o, none⟩) h, fun b o h => hb.frozen (p := ⟨b, o, none⟩) h, hb.size⟩

theorem size_setCell (w : World) (a : Addr) (v : Value) : (w.setCell a v).heap.size = w.heap.size := by simp [World.setCell]

theorem str_any (s : ByteArray) (w : World) :
    Calls Tryz.prog 33 #[.string s] w fun e w' => e = .returned (.agg #[.int .i64 2, .int .i64 0, .int .i64 0, .string s, .slice none 0 0]) ∧ Below w.heap.size w w' := by
  go_enter Tryz.func33, Tryz.ntmps33
  go_wp2
  exact bodyPost_ret (v := (.agg #[.int .i64 2, .int .i64 0, .int .i64 0, .string s, .slice none 0 0])) (by simp [results, Tryz.results33, go_sem]) rfl ⟨rfl, (Below.refl _ _).alloc (Nat.le_refl _) _⟩

theorem err_any (s : ByteArray) (w : World) :
    Calls Tryz.prog 35 #[.string s] w fun e w' => e = .returned (.agg #[.int .i64 4, .int .i64 0, .int .i64 0, .string s, .slice none 0 0]) ∧ Below w.heap.size w w' := by
  go_enter Tryz.func35, Tryz.ntmps35
  go_wp2
  exact bodyPost_ret (v := (.agg #[.int .i64 4, .int .i64 0, .int .i64 0, .string s, .slice none 0 0])) (by simp [results, Tryz.results35, go_sem]) rfl ⟨rfl, (Below.refl _ _).alloc (Nat.le_refl _) _⟩

theorem doubt_any (w : World) :
    Calls Tryz.prog 38 #[] w fun e w' => e = .returned (.agg #[.int .i64 6, .int .i64 0, .int .i64 0, .string ⟨#[]⟩, .slice none 0 0]) ∧ Below w.heap.size w w' := by
  go_enter Tryz.func38, Tryz.ntmps38
  go_wp2
  exact bodyPost_ret (v := (.agg #[.int .i64 6, .int .i64 0, .int .i64 0, .string ⟨#[]⟩, .slice none 0 0])) (by simp [results, Tryz.results38, go_sem]) rfl ⟨rfl, (Below.refl _ _).alloc (Nat.le_refl _) _⟩

theorem bool_any (b : Bool) (w : World) :
    Calls Tryz.prog 34 #[.bool b] w fun e w' => e = .returned (.agg #[.int .i64 3, .int .i64 (if b then 1 else 0), .int .i64 0, .string ⟨#[]⟩, .slice none 0 0]) ∧ Below w.heap.size w w' := by
  cases b
  · go_enter Tryz.func34, Tryz.ntmps34
    go_wp2
    exact bodyPost_ret (v := (.agg #[.int .i64 3, .int .i64 0, .int .i64 0, .string ⟨#[]⟩, .slice none 0 0])) (by simp [results, Tryz.results34, go_sem]) rfl ⟨rfl, (Below.refl _ _).alloc (Nat.le_refl _) _⟩
  · go_enter Tryz.func34, Tryz.ntmps34
    go_wp2
    exact bodyPost_ret (v := (.agg #[.int .i64 3, .int .i64 1, .int .i64 0, .string ⟨#[]⟩, .slice none 0 0])) (by simp [results, Tryz.results34, go_sem]) rfl ⟨rfl, (Below.refl _ _).alloc (Nat.le_refl _) _⟩

theorem table_any (A : Option Addr) (n c : Nat) (w : World) :
    Calls Tryz.prog 15 #[.slice A n c] w fun e w' => e = .returned (.agg #[.int .i64 5, .int .i64 0, .int .i64 0, .string ⟨#[]⟩, .slice A n c]) ∧ Below w.heap.size w w' := by
  go_enter Tryz.func15, Tryz.ntmps15
  go_wp2
  exact bodyPost_ret (v := (.agg #[.int .i64 5, .int .i64 0, .int .i64 0, .string ⟨#[]⟩, .slice A n c])) (by simp [results, Tryz.results15, go_sem]) rfl ⟨rfl, (Below.refl _ _).alloc (Nat.le_refl _) _⟩

theorem int_big (n : Int) (w : World) (h : 99999999999 < n ∨ n < -99999999999) :
    Calls Tryz.prog 31 #[.int .i64 n] w fun e w' => e = .returned (.agg #[.int .i64 6, .int .i64 0, .int .i64 0, .string ⟨#[]⟩, .slice none 0 0]) ∧ Below w.heap.size w w' := by
  rcases h with h | h
  · go_enter Tryz.func31, Tryz.ntmps31
    go_wp2_with (go_at_call 38; refine (doubt_any _).mono ?_; rintro e w1 ⟨rfl, hb1⟩; obtain ⟨hc1, hf1, hz1⟩ := bcell hb1; try simp only [World.size_alloc, size_setCell] at hz1)
    exact bodyPost_ret (v := (.agg #[.int .i64 6, .int .i64 0, .int .i64 0, .string ⟨#[]⟩, .slice none 0 0])) (by simp [results, Tryz.results31, go_sem, hc1]) rfl ⟨rfl, (by (repeat' (first | with_reducible exact Below.refl _ _ | with_reducible refine Below.setCell ?_ ?_ _ | with_reducible refine Below.alloc ?_ ?_ _ | with_reducible refine Below.drew ?_ | with_reducible refine Below.trans ?_ (Below.mono (by assumption) ?_))); all_goals (first | omega | (simp [World.setCell]; done) | (simp [World.setCell]; omega)))⟩
  · have h' : ¬ 99999999999 < n := by omega
    go_enter Tryz.func31, Tryz.ntmps31
    go_wp2_with (go_at_call 38; refine (doubt_any _).mono ?_; rintro e w1 ⟨rfl, hb1⟩; obtain ⟨hc1, hf1, hz1⟩ := bcell hb1; try simp only [World.size_alloc, size_setCell] at hz1)
    exact bodyPost_ret (v := (.agg #[.int .i64 6, .int .i64 0, .int .i64 0, .string ⟨#[]⟩, .slice none 0 0])) (by simp [results, Tryz.results31, go_sem, hc1]) rfl ⟨rfl, (by (repeat' (first | with_reducible exact Below.refl _ _ | with_reducible refine Below.setCell ?_ ?_ _ | with_reducible refine Below.alloc ?_ ?_ _ | with_reducible refine Below.drew ?_ | with_reducible refine Below.trans ?_ (Below.mono (by assumption) ?_))); all_goals (first | omega | (simp [World.setCell]; done) | (simp [World.setCell]; omega)))⟩

theorem int_ok (n : Int) (w : World) (h1 : n ≤ 99999999999) (h2 : -99999999999 ≤ n) :
    Calls Tryz.prog 31 #[.int .i64 n] w fun e w' => e = .returned (.agg #[.int .i64 1, .int .i64 n, .int .i64 1, .string ⟨#[]⟩, .slice none 0 0]) ∧ Below w.heap.size w w' := by
  go_enter Tryz.func31, Tryz.ntmps31
  go_wp2
  exact bodyPost_ret (v := (.agg #[.int .i64 1, .int .i64 n, .int .i64 1, .string ⟨#[]⟩, .slice none 0 0])) (by simp [results, Tryz.results31, go_sem]) rfl ⟨rfl, (by (repeat' (first | with_reducible exact Below.refl _ _ | with_reducible refine Below.setCell ?_ ?_ _ | with_reducible refine Below.alloc ?_ ?_ _ | with_reducible refine Below.drew ?_ | with_reducible refine Below.trans ?_ (Below.mono (by assumption) ?_))); all_goals (first | omega | (simp [World.setCell]; done) | (simp [World.setCell]; omega)))⟩

end Go.Proofs.YtdpkjhohklfieaaGreat
