/-
  No cell of these rows narrows 'for every input' (looked for: loops, veiled, ifaces, maps, wideKeys, modest, calm, conditions, laid).
  DERIVED. THE GIVEN ROWS OF THIS SEAT. 8 by the template 'for every input the law returns true; each argument reads behind the call as it read before'; 0 by the template 'total and deterministic' (their statements: YtmlcaamgkgdgoaaGreatTotals.lean).
  GIVEN WITH THE SEED: the statements are not yours to turn. If you find one false, say at which input.
  Laid BY PROGRAM, IN A SANDBOX (cutbox-rows.mjs): the forced cells as the released guide's own fill.sh prints them over the translation 701190313a7b3a89… (all of the seat's roots in one cut). By AI agents, Wed Nov 11 2026. No macro, syntax, notation, axiom, sorry.
-/
import Derived.Test.YtmlcaamgkgdgoaaGreatChecked
import GoSem.Claim
import GoSem.ClaimJoined
import GoSem.ClaimMapViews
import Derived.JoinedTies
import Derived.KernelRfl
namespace Go.Proofs.YtmlcaamgkgdgoaaGreat
/- THE CELL 'sum', in the pinned program and in every row, IS THE sha256 OF THE DUMP (.gsa) THAT YtmlcaamgkgdgoaaGreatProg.lean LOADS. Nothing in Lean hashes anything: it is a label: what it is worth is what the hold of that sum in a sandbox is worth. -/
noncomputable def Tryz.pinned : Pinned := { name := "ytmlcaamgkgdgoaagreat", sum := "701190313a7b3a89af7a27497465c5bbf7728bd08b12848ac1cbe90b20334d53", checked := Tryz.checked }
namespace Rows
def none {H : Type} : Left H := { results := [], args := [] }

/-- 'laws.FnCountblank': WHATEVER THE INPUT: true; the input reads as it did. -/
def fnCountblankSpec : ChangeSpec := { name := "fnCountblank", fn := fun _ => fun
  | [d1, d2] => { results := [.lit (.bool true)], args := [d1, d2] }
  | _ => none }
def fnCountblankRow : OpenClaim := { program := "ytmlcaamgkgdgoaagreat", sum := "701190313a7b3a89af7a27497465c5bbf7728bd08b12848ac1cbe90b20334d53", func := "pub-tallysheet/laws.FnCountblank", spec := "fnCountblank", unfollowed := true, recurses := true, apart := false }
def FnCountblankSaid : Prop := fnCountblankRow.holds Tryz.pinned (OpenSpec.ofChange fnCountblankSpec)

/-- ITS FALSE NEIGHBOUR: 'it returns false'. Refute it at one input. -/
def fnCountblankWrong : ChangeSpec := { name := "fnCountblank", fn := fun _ => fun
  | [d1, d2] => { results := [.lit (.bool false)], args := [d1, d2] }
  | _ => none }
def FnCountblankWrongFalsely : Prop := fnCountblankRow.holds Tryz.pinned (OpenSpec.ofChange fnCountblankWrong)

/-- 'laws.FnCounta': WHATEVER THE INPUT: true; the input reads as it did. -/
def fnCountaSpec : ChangeSpec := { name := "fnCounta", fn := fun _ => fun
  | [d1, d2, d3] => { results := [.lit (.bool true)], args := [d1, d2, d3] }
  | _ => none }
def fnCountaRow : OpenClaim := { program := "ytmlcaamgkgdgoaagreat", sum := "701190313a7b3a89af7a27497465c5bbf7728bd08b12848ac1cbe90b20334d53", func := "pub-tallysheet/laws.FnCounta", spec := "fnCounta", unfollowed := true, recurses := true, apart := false }
def FnCountaSaid : Prop := fnCountaRow.holds Tryz.pinned (OpenSpec.ofChange fnCountaSpec)

/-- ITS FALSE NEIGHBOUR: 'it returns false'. Refute it at one input. -/
def fnCountaWrong : ChangeSpec := { name := "fnCounta", fn := fun _ => fun
  | [d1, d2, d3] => { results := [.lit (.bool false)], args := [d1, d2, d3] }
  | _ => none }
def FnCountaWrongFalsely : Prop := fnCountaRow.holds Tryz.pinned (OpenSpec.ofChange fnCountaWrong)

/-- 'laws.FnOr': WHATEVER THE INPUT: true; the input reads as it did. -/
def fnOrSpec : ChangeSpec := { name := "fnOr", fn := fun _ => fun
  | [d] => { results := [.lit (.bool true)], args := [d] }
  | _ => none }
def fnOrRow : OpenClaim := { program := "ytmlcaamgkgdgoaagreat", sum := "701190313a7b3a89af7a27497465c5bbf7728bd08b12848ac1cbe90b20334d53", func := "pub-tallysheet/laws.FnOr", spec := "fnOr", unfollowed := true, recurses := true, apart := false }
def FnOrSaid : Prop := fnOrRow.holds Tryz.pinned (OpenSpec.ofChange fnOrSpec)

/-- ITS FALSE NEIGHBOUR: 'it returns false'. Refute it at one input. -/
def fnOrWrong : ChangeSpec := { name := "fnOr", fn := fun _ => fun
  | [d] => { results := [.lit (.bool false)], args := [d] }
  | _ => none }
def FnOrWrongFalsely : Prop := fnOrRow.holds Tryz.pinned (OpenSpec.ofChange fnOrWrong)

/-- 'laws.FnOrNumbers': WHATEVER THE INPUT: true; the input reads as it did. -/
def fnOrNumbersSpec : ChangeSpec := { name := "fnOrNumbers", fn := fun _ => fun
  | [d] => { results := [.lit (.bool true)], args := [d] }
  | _ => none }
def fnOrNumbersRow : OpenClaim := { program := "ytmlcaamgkgdgoaagreat", sum := "701190313a7b3a89af7a27497465c5bbf7728bd08b12848ac1cbe90b20334d53", func := "pub-tallysheet/laws.FnOrNumbers", spec := "fnOrNumbers", unfollowed := true, recurses := true, apart := false }
def FnOrNumbersSaid : Prop := fnOrNumbersRow.holds Tryz.pinned (OpenSpec.ofChange fnOrNumbersSpec)

/-- ITS FALSE NEIGHBOUR: 'it returns false'. Refute it at one input. -/
def fnOrNumbersWrong : ChangeSpec := { name := "fnOrNumbers", fn := fun _ => fun
  | [d] => { results := [.lit (.bool false)], args := [d] }
  | _ => none }
def FnOrNumbersWrongFalsely : Prop := fnOrNumbersRow.holds Tryz.pinned (OpenSpec.ofChange fnOrNumbersWrong)

/-- 'laws.FnMdeterm': WHATEVER THE INPUT: true; the input reads as it did. -/
def fnMdetermSpec : ChangeSpec := { name := "fnMdeterm", fn := fun _ => fun
  | [d1, d2] => { results := [.lit (.bool true)], args := [d1, d2] }
  | _ => none }
def fnMdetermRow : OpenClaim := { program := "ytmlcaamgkgdgoaagreat", sum := "701190313a7b3a89af7a27497465c5bbf7728bd08b12848ac1cbe90b20334d53", func := "pub-tallysheet/laws.FnMdeterm", spec := "fnMdeterm", unfollowed := true, recurses := true, apart := false }
def FnMdetermSaid : Prop := fnMdetermRow.holds Tryz.pinned (OpenSpec.ofChange fnMdetermSpec)

/-- ITS FALSE NEIGHBOUR: 'it returns false'. Refute it at one input. -/
def fnMdetermWrong : ChangeSpec := { name := "fnMdeterm", fn := fun _ => fun
  | [d1, d2] => { results := [.lit (.bool false)], args := [d1, d2] }
  | _ => none }
def FnMdetermWrongFalsely : Prop := fnMdetermRow.holds Tryz.pinned (OpenSpec.ofChange fnMdetermWrong)

/-- 'laws.FnMmult': WHATEVER THE INPUT: true; the input reads as it did. -/
def fnMmultSpec : ChangeSpec := { name := "fnMmult", fn := fun _ => fun
  | [d1, d2, d3, d4] => { results := [.lit (.bool true)], args := [d1, d2, d3, d4] }
  | _ => none }
def fnMmultRow : OpenClaim := { program := "ytmlcaamgkgdgoaagreat", sum := "701190313a7b3a89af7a27497465c5bbf7728bd08b12848ac1cbe90b20334d53", func := "pub-tallysheet/laws.FnMmult", spec := "fnMmult", unfollowed := true, recurses := true, apart := false }
def FnMmultSaid : Prop := fnMmultRow.holds Tryz.pinned (OpenSpec.ofChange fnMmultSpec)

/-- ITS FALSE NEIGHBOUR: 'it returns false'. Refute it at one input. -/
def fnMmultWrong : ChangeSpec := { name := "fnMmult", fn := fun _ => fun
  | [d1, d2, d3, d4] => { results := [.lit (.bool false)], args := [d1, d2, d3, d4] }
  | _ => none }
def FnMmultWrongFalsely : Prop := fnMmultRow.holds Tryz.pinned (OpenSpec.ofChange fnMmultWrong)

/-- 'laws.FnShape': WHATEVER THE INPUT: true; the input reads as it did. -/
def fnShapeSpec : ChangeSpec := { name := "fnShape", fn := fun _ => fun
  | [d1, d2] => { results := [.lit (.bool true)], args := [d1, d2] }
  | _ => none }
def fnShapeRow : OpenClaim := { program := "ytmlcaamgkgdgoaagreat", sum := "701190313a7b3a89af7a27497465c5bbf7728bd08b12848ac1cbe90b20334d53", func := "pub-tallysheet/laws.FnShape", spec := "fnShape", unfollowed := true, recurses := true, apart := false }
def FnShapeSaid : Prop := fnShapeRow.holds Tryz.pinned (OpenSpec.ofChange fnShapeSpec)

/-- ITS FALSE NEIGHBOUR: 'it returns false'. Refute it at one input. -/
def fnShapeWrong : ChangeSpec := { name := "fnShape", fn := fun _ => fun
  | [d1, d2] => { results := [.lit (.bool false)], args := [d1, d2] }
  | _ => none }
def FnShapeWrongFalsely : Prop := fnShapeRow.holds Tryz.pinned (OpenSpec.ofChange fnShapeWrong)

/-- 'laws.FnTranspose': WHATEVER THE INPUT: true; the input reads as it did. -/
def fnTransposeSpec : ChangeSpec := { name := "fnTranspose", fn := fun _ => fun
  | [d1, d2] => { results := [.lit (.bool true)], args := [d1, d2] }
  | _ => none }
def fnTransposeRow : OpenClaim := { program := "ytmlcaamgkgdgoaagreat", sum := "701190313a7b3a89af7a27497465c5bbf7728bd08b12848ac1cbe90b20334d53", func := "pub-tallysheet/laws.FnTranspose", spec := "fnTranspose", unfollowed := true, recurses := true, apart := false }
def FnTransposeSaid : Prop := fnTransposeRow.holds Tryz.pinned (OpenSpec.ofChange fnTransposeSpec)

/-- ITS FALSE NEIGHBOUR: 'it returns false'. Refute it at one input. -/
def fnTransposeWrong : ChangeSpec := { name := "fnTranspose", fn := fun _ => fun
  | [d1, d2] => { results := [.lit (.bool false)], args := [d1, d2] }
  | _ => none }
def FnTransposeWrongFalsely : Prop := fnTransposeRow.holds Tryz.pinned (OpenSpec.ofChange fnTransposeWrong)

/- THE SECOND FORM. 'bulk': how many values and letters a reading holds, each counted each time it is reached (what is shared counts as often as it is met; a slice's spare places count too). A statement '..UptoSaid' is the law's where the arguments, and the package variables that the reading takes, are together of bulk at most 1048576: NARROWER than '..Said'. Prove '..Said' where nothing that the law and all that it calls make is longer than what came in: it says more and counts as full. Else prove '..UptoSaid'. A law counts once. -/
mutual
def uptoBulk {H : Type} : DataW H → Nat
  | .lit (.string bytes) => bytes.length + 1
  | .lit _ => 1
  | .nil => 1
  | .ptr d => uptoBulk d + 1
  | .slice elems spare => uptoBulkAll elems + uptoBulkAll spare + 1
  | .agg parts => uptoBulkAll parts + 1
  | .iface _ d => uptoBulk d + 1
  | .map entries => uptoBulkEntries entries + 1
  | .held _ => 1
def uptoBulkAll {H : Type} : List (DataW H) → Nat
  | [] => 0
  | d :: r => uptoBulk d + uptoBulkAll r
def uptoBulkEntries {H : Type} : List (Lit × DataW H) → Nat
  | [] => 0
  | x :: r => uptoBulkEntry x + uptoBulkEntries r
def uptoBulkEntry {H : Type} : Lit × DataW H → Nat
  | (.string bytes, d) => bytes.length + uptoBulk d + 1
  | (_, d) => uptoBulk d + 1
 end
def uptoSmall : (H : Type) → List (DataW H) → Bool := fun _ ds => decide (uptoBulkAll ds ≤ 1048576)
def OpenSpec.upto (s : _root_.Go.ChangeSpec) : _root_.Go.OpenSpec := { _root_.Go.OpenSpec.ofChange s with cond := some uptoSmall }

/-- 'laws.FnCountblank', WHERE WHAT IT READS IS OF BULK AT MOST 1048576: true; the input reads as it did. -/
def fnCountblankUptoRow : OpenClaim := { program := "ytmlcaamgkgdgoaagreat", sum := "701190313a7b3a89af7a27497465c5bbf7728bd08b12848ac1cbe90b20334d53", func := "pub-tallysheet/laws.FnCountblank", spec := "fnCountblank", unfollowed := true, recurses := true, apart := false, narrowed := true }
def FnCountblankUptoSaid : Prop := fnCountblankUptoRow.holds Tryz.pinned (OpenSpec.upto fnCountblankSpec)

/-- 'laws.FnCounta', WHERE WHAT IT READS IS OF BULK AT MOST 1048576: true; the input reads as it did. -/
def fnCountaUptoRow : OpenClaim := { program := "ytmlcaamgkgdgoaagreat", sum := "701190313a7b3a89af7a27497465c5bbf7728bd08b12848ac1cbe90b20334d53", func := "pub-tallysheet/laws.FnCounta", spec := "fnCounta", unfollowed := true, recurses := true, apart := false, narrowed := true }
def FnCountaUptoSaid : Prop := fnCountaUptoRow.holds Tryz.pinned (OpenSpec.upto fnCountaSpec)

/-- 'laws.FnOr', WHERE WHAT IT READS IS OF BULK AT MOST 1048576: true; the input reads as it did. -/
def fnOrUptoRow : OpenClaim := { program := "ytmlcaamgkgdgoaagreat", sum := "701190313a7b3a89af7a27497465c5bbf7728bd08b12848ac1cbe90b20334d53", func := "pub-tallysheet/laws.FnOr", spec := "fnOr", unfollowed := true, recurses := true, apart := false, narrowed := true }
def FnOrUptoSaid : Prop := fnOrUptoRow.holds Tryz.pinned (OpenSpec.upto fnOrSpec)

/-- 'laws.FnOrNumbers', WHERE WHAT IT READS IS OF BULK AT MOST 1048576: true; the input reads as it did. -/
def fnOrNumbersUptoRow : OpenClaim := { program := "ytmlcaamgkgdgoaagreat", sum := "701190313a7b3a89af7a27497465c5bbf7728bd08b12848ac1cbe90b20334d53", func := "pub-tallysheet/laws.FnOrNumbers", spec := "fnOrNumbers", unfollowed := true, recurses := true, apart := false, narrowed := true }
def FnOrNumbersUptoSaid : Prop := fnOrNumbersUptoRow.holds Tryz.pinned (OpenSpec.upto fnOrNumbersSpec)

/-- 'laws.FnMdeterm', WHERE WHAT IT READS IS OF BULK AT MOST 1048576: true; the input reads as it did. -/
def fnMdetermUptoRow : OpenClaim := { program := "ytmlcaamgkgdgoaagreat", sum := "701190313a7b3a89af7a27497465c5bbf7728bd08b12848ac1cbe90b20334d53", func := "pub-tallysheet/laws.FnMdeterm", spec := "fnMdeterm", unfollowed := true, recurses := true, apart := false, narrowed := true }
def FnMdetermUptoSaid : Prop := fnMdetermUptoRow.holds Tryz.pinned (OpenSpec.upto fnMdetermSpec)

/-- 'laws.FnMmult', WHERE WHAT IT READS IS OF BULK AT MOST 1048576: true; the input reads as it did. -/
def fnMmultUptoRow : OpenClaim := { program := "ytmlcaamgkgdgoaagreat", sum := "701190313a7b3a89af7a27497465c5bbf7728bd08b12848ac1cbe90b20334d53", func := "pub-tallysheet/laws.FnMmult", spec := "fnMmult", unfollowed := true, recurses := true, apart := false, narrowed := true }
def FnMmultUptoSaid : Prop := fnMmultUptoRow.holds Tryz.pinned (OpenSpec.upto fnMmultSpec)

/-- 'laws.FnShape', WHERE WHAT IT READS IS OF BULK AT MOST 1048576: true; the input reads as it did. -/
def fnShapeUptoRow : OpenClaim := { program := "ytmlcaamgkgdgoaagreat", sum := "701190313a7b3a89af7a27497465c5bbf7728bd08b12848ac1cbe90b20334d53", func := "pub-tallysheet/laws.FnShape", spec := "fnShape", unfollowed := true, recurses := true, apart := false, narrowed := true }
def FnShapeUptoSaid : Prop := fnShapeUptoRow.holds Tryz.pinned (OpenSpec.upto fnShapeSpec)

/-- 'laws.FnTranspose', WHERE WHAT IT READS IS OF BULK AT MOST 1048576: true; the input reads as it did. -/
def fnTransposeUptoRow : OpenClaim := { program := "ytmlcaamgkgdgoaagreat", sum := "701190313a7b3a89af7a27497465c5bbf7728bd08b12848ac1cbe90b20334d53", func := "pub-tallysheet/laws.FnTranspose", spec := "fnTranspose", unfollowed := true, recurses := true, apart := false, narrowed := true }
def FnTransposeUptoSaid : Prop := fnTransposeUptoRow.holds Tryz.pinned (OpenSpec.upto fnTransposeSpec)

end Rows
end Go.Proofs.YtmlcaamgkgdgoaaGreat
