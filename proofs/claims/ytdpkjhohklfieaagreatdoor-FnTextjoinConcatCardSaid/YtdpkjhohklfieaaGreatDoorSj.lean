/-
  DERIVED: THE SHELF's CONTRACTS AT THIS DUMP, IN PLAIN WORDS (tools/lay-plain.mjs out of 'TryzSh1.lean', which tools/lay-shelf.mjs wrote): THE SAME DECLARATIONS UNDER THE SAME NAMES: 'import', 'namespace', 'open', 'def', 'theorem' AND NOTHING ELSE: no command of the shelf's: FOR A HAND-IN. Each laying: the table of numbers ('.._ren') and one theorem, a field a fact of the dump's own or the kernel's comparison; each contract: ONE APPLICATION.
-/
import Derived.Shelf.Strings.Builder1
import Derived.Shelf.Strings.Builder2
import Derived.Shelf.Strings.OnBuilder
import Derived.Shelf.Strings.FieldsFuncGrows
import Derived.Test.YtdpkjhohklfieaaGreatDoorProg
set_option linter.unusedSimpArgs false
set_option linter.unusedVariables false
namespace Go.Proofs
open Go.Shelf
def Tryz.lays156_ren : Go.Shelf.Ren := ⟨fun | 156 => 36 | 165 => 48 | 166 => 49 | 169 => 50 | 240 => 63 | 241 => 64 | 276 => 70 | 277 => 71 | n => n, fun | 31 => 32 | 9 => 9 | 3 => 3 | 4 => 4 | 0 => 0 | 20 => 20 | 72 => 90 | 76 => 94 | 70 => 87 | 37 => 88 | 75 => 93 | 127 => 115 | 164 => 122 | 5 => 5 | 80 => 77 | n => n, fun | n => n⟩
theorem Tryz.lays156 : Go.Proofs.Lays.n156 Tryz.prog Tryz.lays156_ren := {
  mixed := by kernel_rfl
  f156 := Tryz.func36.trans (congrArg some (by kernel_rfl))
  f165 := Tryz.func48.trans (congrArg some (by kernel_rfl))
  f166 := Tryz.func49.trans (congrArg some (by kernel_rfl))
  f169 := Tryz.func50.trans (congrArg some (by kernel_rfl))
  f240 := Tryz.func63.trans (congrArg some (by kernel_rfl))
  f241 := Tryz.func64.trans (congrArg some (by kernel_rfl))
  f276 := Tryz.func70.trans (congrArg some (by kernel_rfl))
  f277 := Tryz.func71.trans (congrArg some (by kernel_rfl))
  t0 := Tryz.underlying0
  a0 := Tryz.isAgg0
  z0 := Tryz.sizeOf0
  v0 := Tryz.zeroValue0
  t3 := Tryz.underlying3
  a3 := Tryz.isAgg3
  z3 := Tryz.sizeOf3
  v3 := Tryz.zeroValue3
  t4 := Tryz.underlying4
  a4 := Tryz.isAgg4
  z4 := Tryz.sizeOf4
  v4 := Tryz.zeroValue4
  t9 := Tryz.underlying9
  a9 := Tryz.isAgg9
  z9 := Tryz.sizeOf9
  v9 := Tryz.zeroValue9
  t20 := Tryz.underlying20
  a20 := Tryz.isAgg20
  z20 := Tryz.sizeOf20
  v20 := Tryz.zeroValue20
  t31 := Tryz.underlying32
  a31 := Tryz.isAgg32
  z31 := Tryz.sizeOf32
  v31 := Tryz.zeroValue32
  t37 := Tryz.underlying88
  a37 := Tryz.isAgg88
  z37 := Tryz.sizeOf88
  v37 := Tryz.zeroValue88
  t70 := Tryz.underlying87
  a70 := Tryz.isAgg87
  z70 := Tryz.sizeOf87
  v70 := Tryz.zeroValue87
  t72 := Tryz.underlying90
  a72 := Tryz.isAgg90
  z72 := Tryz.sizeOf90
  v72 := Tryz.zeroValue90
  t75 := Tryz.underlying93
  a75 := Tryz.isAgg93
  z75 := Tryz.sizeOf93
  v75 := Tryz.zeroValue93
  t76 := Tryz.underlying94
  a76 := Tryz.isAgg94
  z76 := Tryz.sizeOf94
  v76 := Tryz.zeroValue94
  t127 := Tryz.underlying115
  a127 := Tryz.isAgg115
  z127 := Tryz.sizeOf115
  v127 := Tryz.zeroValue115
  t164 := Tryz.underlying122
  a164 := Tryz.isAgg122
  z164 := Tryz.sizeOf122
  v164 := Tryz.zeroValue122 }
theorem Tryz.Builder_Extra_156 : Builder.Extra Tryz.prog Tryz.lays156_ren := {
  sizeBuilder := by kernel_rfl
  liesBuilder := by kernel_rfl
  t5 := Tryz.underlying5
  a5 := Tryz.isAgg5
  z5 := Tryz.sizeOf5
  v5 := Tryz.zeroValue5
  infoByte := by kernel_rfl
  cellsByte := by kernel_rfl
  sizeByte := by kernel_rfl
  neB5 := by decide }
open Go.RowKit in
/-- strings.Join: "Join concatenates the elements of its first argument to create a single string. The separator string sep is placed between elements in the resulting string.": HOWEVER MANY ELEMENTS. Below the heap's end the world is as it was. (LAID: no walk: one application.) -/
theorem Tryz.strings_Join (bk o c : Nat) (xs : List ByteArray) (sep : ByteArray) (w : World) (hcells : ∀ (j : Nat) x, xs[j]? = some x → w.cell? ⟨bk, o + j, none⟩ = some (.string x)) (hbk : bk < w.heap.size) (hN : xs.length ≤ 140737488355328) (hcap : xs.length ≤ c) (hlen : (Lib.join (xs.map (·.data.toList)) sep.data.toList).length ≤ 140737488355328) :
    Calls Tryz.prog 36 #[.slice (some ⟨bk, o, none⟩) xs.length c, .string sep] w fun e w' => e = .returned (.string ⟨(Lib.join (xs.map (·.data.toList)) sep.data.toList).toArray⟩) ∧ Below w.heap.size w w' := Any.strings_Join Tryz.lays156 Tryz.Builder_Extra_156 bk o c xs sep w hcells hbk hN hcap hlen
def Tryz.lays229_ren : Go.Shelf.Ren := ⟨fun | 229 => 37 | n => n, fun | 9 => 9 | 40 => 78 | 31 => 32 | 152 => 96 | 3 => 3 | 0 => 0 | 4 => 4 | 21 => 21 | 154 => 98 | n => n, fun | n => n⟩
theorem Tryz.lays229 : Go.Proofs.Lays.n229 Tryz.prog Tryz.lays229_ren := {
  mixed := by kernel_rfl
  f229 := Tryz.func37.trans (congrArg some (by kernel_rfl))
  t0 := Tryz.underlying0
  a0 := Tryz.isAgg0
  z0 := Tryz.sizeOf0
  v0 := Tryz.zeroValue0
  t3 := Tryz.underlying3
  a3 := Tryz.isAgg3
  z3 := Tryz.sizeOf3
  v3 := Tryz.zeroValue3
  t4 := Tryz.underlying4
  a4 := Tryz.isAgg4
  z4 := Tryz.sizeOf4
  v4 := Tryz.zeroValue4
  t9 := Tryz.underlying9
  a9 := Tryz.isAgg9
  z9 := Tryz.sizeOf9
  v9 := Tryz.zeroValue9
  t21 := Tryz.underlying21
  a21 := Tryz.isAgg21
  z21 := Tryz.sizeOf21
  v21 := Tryz.zeroValue21
  t31 := Tryz.underlying32
  a31 := Tryz.isAgg32
  z31 := Tryz.sizeOf32
  v31 := Tryz.zeroValue32
  t40 := Tryz.underlying78
  a40 := Tryz.isAgg78
  z40 := Tryz.sizeOf78
  v40 := Tryz.zeroValue78
  t152 := Tryz.underlying96
  a152 := Tryz.isAgg96
  z152 := Tryz.sizeOf96
  v152 := Tryz.zeroValue96
  t154 := Tryz.underlying98
  a154 := Tryz.isAgg98
  z154 := Tryz.sizeOf98
  v154 := Tryz.zeroValue98 }
open Go.RowKit Go.Lib in
theorem Tryz.strings_FieldsFunc_grows (g : Nat) (lb : Array Value) (eg : ∀ args w, (callFunc g args).run Tryz.prog w = .ok (.enter g args) w) (p : Nat → Bool) (s : ByteArray) (w : World) (hs : s.size ≤ 4294967296) (hp : PredGrows Tryz.prog g lb p w) :
    Calls Tryz.prog 37 #[.string s, .func (.func g) #[] lb] w fun e w' => ∃ A, e = .returned (.slice (some ⟨A, 0, none⟩) (Lib.goFieldsP p s).length (Lib.goFieldsP p s).length) ∧ w.heap.size ≤ A ∧
      w'.ownsRow w.heap.size 9 1 (.slice (some ⟨A, 0, none⟩) (Lib.goFieldsP p s).length (Lib.goFieldsP p s).length) (Lib.goFieldsP p s).length ((Lib.goFieldsP p s).map Value.string) ∧ Below w.heap.size w w' := Any.strings_FieldsFunc_grows Tryz.lays229 g lb eg p s w hs hp (by kernel_rfl) (by kernel_rfl)
end Go.Proofs
