/- Contracts of the small functions that make one value (of the reference, of the thin package, of the package): what each returns, and that it writes nothing that was there. -/
import Derived.Test.YtdpkjhohklfieaaGreatDoorProg
import Derived.Test.YtdpkjhohklfieaaGreatDoorFl
import Derived.WalkKit
import Derived.WalkSpells
import Derived.WalkLawsBesides
set_option linter.unusedSimpArgs false
set_option linter.unusedVariables false
namespace Go.Proofs.YtdpkjhohklfieaaGreatDoor
open Go.RowKit
set_option maxRecDepth 100000

@[go_sem] theorem run_store_float (P : Program) (w : World) (a : Addr) (m : Mode) (k : FloatKind) (b : Nat) : (store a (.float k b) m).run P w = stored P w a (.float k b) m := run_store P w a _ m rfl
@[go_sem] theorem run_store_nilIface (P : Program) (w : World) (a : Addr) (m : Mode) : (store a .nilIface m).run P w = stored P w a .nilIface m := run_store P w a _ m rfl
@[go_sem] theorem run_store_iface (P : Program) (w : World) (a : Addr) (m : Mode) (t : TypeId) (v : Value) : (store a (.iface t v) m).run P w = stored P w a (.iface t v) m := run_store P w a _ m rfl

/-- What a contract that ends in 'Below' gives the walk: old cells and old marks read as before; no block has gone. -/
theorem bcell {W w1 : World} (hb : Below W.heap.size W w1) : (∀ b o, b < W.heap.size → w1.cell? ⟨b, o, none⟩ = W.cell? ⟨b, o, none⟩) ∧ (∀ b o, b < W.heap.size → w1.frozen? ⟨b, o, none⟩ = W.frozen? ⟨b, o, none⟩) ∧ W.heap.size ≤ w1.heap.size :=
  ⟨fun b o h => hb.cell (p := ⟨b, o, none⟩) h, fun b o h => hb.frozen (p := ⟨b, o, none⟩) h, hb.size⟩

theorem size_setCell (w : World) (a : Addr) (v : Value) : (w.setCell a v).heap.size = w.heap.size := by simp [World.setCell]

theorem str_any (s : ByteArray) (w : World) :
    Calls Tryz.prog 9 #[.string s] w fun e w' => e = .returned (.agg #[.int .i64 2, .int .i64 0, .int .i64 0, .string s, .slice none 0 0]) ∧ Below w.heap.size w w' := by
  go_enter Tryz.func9, Tryz.ntmps9
  go_wp2
  exact bodyPost_ret (v := (.agg #[.int .i64 2, .int .i64 0, .int .i64 0, .string s, .slice none 0 0])) (by simp [results, Tryz.results9, go_sem]) rfl ⟨rfl, (Below.refl _ _).alloc (Nat.le_refl _) _⟩

theorem err_any (s : ByteArray) (w : World) :
    Calls Tryz.prog 18 #[.string s] w fun e w' => e = .returned (.agg #[.int .i64 4, .int .i64 0, .int .i64 0, .string s, .slice none 0 0]) ∧ Below w.heap.size w w' := by
  go_enter Tryz.func18, Tryz.ntmps18
  go_wp2
  exact bodyPost_ret (v := (.agg #[.int .i64 4, .int .i64 0, .int .i64 0, .string s, .slice none 0 0])) (by simp [results, Tryz.results18, go_sem]) rfl ⟨rfl, (Below.refl _ _).alloc (Nat.le_refl _) _⟩

theorem doubt_any (w : World) :
    Calls Tryz.prog 19 #[] w fun e w' => e = .returned (.agg #[.int .i64 6, .int .i64 0, .int .i64 0, .string ⟨#[]⟩, .slice none 0 0]) ∧ Below w.heap.size w w' := by
  go_enter Tryz.func19, Tryz.ntmps19
  go_wp2
  exact bodyPost_ret (v := (.agg #[.int .i64 6, .int .i64 0, .int .i64 0, .string ⟨#[]⟩, .slice none 0 0])) (by simp [results, Tryz.results19, go_sem]) rfl ⟨rfl, (Below.refl _ _).alloc (Nat.le_refl _) _⟩

theorem bool_any (b : Bool) (w : World) :
    Calls Tryz.prog 13 #[.bool b] w fun e w' => e = .returned (.agg #[.int .i64 3, .int .i64 (if b then 1 else 0), .int .i64 0, .string ⟨#[]⟩, .slice none 0 0]) ∧ Below w.heap.size w w' := by
  cases b
  · go_enter Tryz.func13, Tryz.ntmps13
    go_wp2
    exact bodyPost_ret (v := (.agg #[.int .i64 3, .int .i64 0, .int .i64 0, .string ⟨#[]⟩, .slice none 0 0])) (by simp [results, Tryz.results13, go_sem]) rfl ⟨rfl, (Below.refl _ _).alloc (Nat.le_refl _) _⟩
  · go_enter Tryz.func13, Tryz.ntmps13
    go_wp2
    exact bodyPost_ret (v := (.agg #[.int .i64 3, .int .i64 1, .int .i64 0, .string ⟨#[]⟩, .slice none 0 0])) (by simp [results, Tryz.results13, go_sem]) rfl ⟨rfl, (Below.refl _ _).alloc (Nat.le_refl _) _⟩

end Go.Proofs.YtdpkjhohklfieaaGreatDoor
