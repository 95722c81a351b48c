/-
  No cell of these rows narrows 'for every input' (looked for: loops, veiled, ifaces, maps, wideKeys, modest, calm, conditions, laid).
  DERIVED. THE GIVEN ROWS OF THIS SEAT. 12 by the template 'for every input the law returns true; each argument reads behind the call as it read before'; 0 by the template 'total and deterministic' (their statements: YtkkmfpjmnebjaaaGreatTotals.lean).
  GIVEN WITH THE SEED: the statements are not yours to turn. If you find one false, say at which input.
  Laid BY PROGRAM, IN A SANDBOX (cutbox-rows.mjs): the forced cells as the released guide's own fill.sh prints them over the translation da5b42e5bdeb858a… (all of the seat's roots in one cut). By AI agents, Wed Nov 11 2026. No macro, syntax, notation, axiom, sorry.
-/
import Derived.Test.YtkkmfpjmnebjaaaGreatChecked
import GoSem.Claim
import GoSem.ClaimJoined
import GoSem.ClaimMapViews
import Derived.JoinedTies
import Derived.KernelRfl
namespace Go.Proofs.YtkkmfpjmnebjaaaGreat
/- THE CELL 'sum', in the pinned program and in every row, IS THE sha256 OF THE DUMP (.gsa) THAT YtkkmfpjmnebjaaaGreatProg.lean LOADS. Nothing in Lean hashes anything: it is a label: what it is worth is what the hold of that sum in a sandbox is worth. -/
noncomputable def Tryz.pinned : Pinned := { name := "ytkkmfpjmnebjaaagreat", sum := "da5b42e5bdeb858adeb9f6291f391840a78e425b9f3799ccea73761cbfbaa259", checked := Tryz.checked }
namespace Rows
def none {H : Type} : Left H := { results := [], args := [] }

/-- 'laws.FnIsna': WHATEVER THE INPUT: true; the input reads as it did. -/
def fnIsnaSpec : ChangeSpec := { name := "fnIsna", fn := fun _ => fun
  | [d1, d2, d3] => { results := [.lit (.bool true)], args := [d1, d2, d3] }
  | _ => none }
def fnIsnaRow : OpenClaim := { program := "ytkkmfpjmnebjaaagreat", sum := "da5b42e5bdeb858adeb9f6291f391840a78e425b9f3799ccea73761cbfbaa259", func := "pub-tallysheet/laws.FnIsna", spec := "fnIsna", unfollowed := true, recurses := true, apart := false }
def FnIsnaSaid : Prop := fnIsnaRow.holds Tryz.pinned (OpenSpec.ofChange fnIsnaSpec)

/-- ITS FALSE NEIGHBOUR: 'it returns false'. Refute it at one input. -/
def fnIsnaWrong : ChangeSpec := { name := "fnIsna", fn := fun _ => fun
  | [d1, d2, d3] => { results := [.lit (.bool false)], args := [d1, d2, d3] }
  | _ => none }
def FnIsnaWrongFalsely : Prop := fnIsnaRow.holds Tryz.pinned (OpenSpec.ofChange fnIsnaWrong)

/-- 'laws.FnIsnontext': WHATEVER THE INPUT: true; the input reads as it did. -/
def fnIsnontextSpec : ChangeSpec := { name := "fnIsnontext", fn := fun _ => fun
  | [d1, d2, d3] => { results := [.lit (.bool true)], args := [d1, d2, d3] }
  | _ => none }
def fnIsnontextRow : OpenClaim := { program := "ytkkmfpjmnebjaaagreat", sum := "da5b42e5bdeb858adeb9f6291f391840a78e425b9f3799ccea73761cbfbaa259", func := "pub-tallysheet/laws.FnIsnontext", spec := "fnIsnontext", unfollowed := true, recurses := true, apart := false }
def FnIsnontextSaid : Prop := fnIsnontextRow.holds Tryz.pinned (OpenSpec.ofChange fnIsnontextSpec)

/-- ITS FALSE NEIGHBOUR: 'it returns false'. Refute it at one input. -/
def fnIsnontextWrong : ChangeSpec := { name := "fnIsnontext", fn := fun _ => fun
  | [d1, d2, d3] => { results := [.lit (.bool false)], args := [d1, d2, d3] }
  | _ => none }
def FnIsnontextWrongFalsely : Prop := fnIsnontextRow.holds Tryz.pinned (OpenSpec.ofChange fnIsnontextWrong)

/-- 'laws.FnIsblank': WHATEVER THE INPUT: true; the input reads as it did. -/
def fnIsblankSpec : ChangeSpec := { name := "fnIsblank", fn := fun _ => fun
  | [d1, d2, d3] => { results := [.lit (.bool true)], args := [d1, d2, d3] }
  | _ => none }
def fnIsblankRow : OpenClaim := { program := "ytkkmfpjmnebjaaagreat", sum := "da5b42e5bdeb858adeb9f6291f391840a78e425b9f3799ccea73761cbfbaa259", func := "pub-tallysheet/laws.FnIsblank", spec := "fnIsblank", unfollowed := true, recurses := true, apart := false }
def FnIsblankSaid : Prop := fnIsblankRow.holds Tryz.pinned (OpenSpec.ofChange fnIsblankSpec)

/-- ITS FALSE NEIGHBOUR: 'it returns false'. Refute it at one input. -/
def fnIsblankWrong : ChangeSpec := { name := "fnIsblank", fn := fun _ => fun
  | [d1, d2, d3] => { results := [.lit (.bool false)], args := [d1, d2, d3] }
  | _ => none }
def FnIsblankWrongFalsely : Prop := fnIsblankRow.holds Tryz.pinned (OpenSpec.ofChange fnIsblankWrong)

/-- 'laws.FnIfna': WHATEVER THE INPUT: true; the input reads as it did. -/
def fnIfnaSpec : ChangeSpec := { name := "fnIfna", fn := fun _ => fun
  | [d1, d2, d3, d4, d5, d6] => { results := [.lit (.bool true)], args := [d1, d2, d3, d4, d5, d6] }
  | _ => none }
def fnIfnaRow : OpenClaim := { program := "ytkkmfpjmnebjaaagreat", sum := "da5b42e5bdeb858adeb9f6291f391840a78e425b9f3799ccea73761cbfbaa259", func := "pub-tallysheet/laws.FnIfna", spec := "fnIfna", unfollowed := true, recurses := true, apart := false }
def FnIfnaSaid : Prop := fnIfnaRow.holds Tryz.pinned (OpenSpec.ofChange fnIfnaSpec)

/-- ITS FALSE NEIGHBOUR: 'it returns false'. Refute it at one input. -/
def fnIfnaWrong : ChangeSpec := { name := "fnIfna", fn := fun _ => fun
  | [d1, d2, d3, d4, d5, d6] => { results := [.lit (.bool false)], args := [d1, d2, d3, d4, d5, d6] }
  | _ => none }
def FnIfnaWrongFalsely : Prop := fnIfnaRow.holds Tryz.pinned (OpenSpec.ofChange fnIfnaWrong)

/-- 'laws.FnErrorType': WHATEVER THE INPUT: true; the input reads as it did. -/
def fnErrorTypeSpec : ChangeSpec := { name := "fnErrorType", fn := fun _ => fun
  | [d1, d2, d3] => { results := [.lit (.bool true)], args := [d1, d2, d3] }
  | _ => none }
def fnErrorTypeRow : OpenClaim := { program := "ytkkmfpjmnebjaaagreat", sum := "da5b42e5bdeb858adeb9f6291f391840a78e425b9f3799ccea73761cbfbaa259", func := "pub-tallysheet/laws.FnErrorType", spec := "fnErrorType", unfollowed := true, recurses := true, apart := false }
def FnErrorTypeSaid : Prop := fnErrorTypeRow.holds Tryz.pinned (OpenSpec.ofChange fnErrorTypeSpec)

/-- ITS FALSE NEIGHBOUR: 'it returns false'. Refute it at one input. -/
def fnErrorTypeWrong : ChangeSpec := { name := "fnErrorType", fn := fun _ => fun
  | [d1, d2, d3] => { results := [.lit (.bool false)], args := [d1, d2, d3] }
  | _ => none }
def FnErrorTypeWrongFalsely : Prop := fnErrorTypeRow.holds Tryz.pinned (OpenSpec.ofChange fnErrorTypeWrong)

/-- 'laws.FnIserr': WHATEVER THE INPUT: true; the input reads as it did. -/
def fnIserrSpec : ChangeSpec := { name := "fnIserr", fn := fun _ => fun
  | [d1, d2, d3] => { results := [.lit (.bool true)], args := [d1, d2, d3] }
  | _ => none }
def fnIserrRow : OpenClaim := { program := "ytkkmfpjmnebjaaagreat", sum := "da5b42e5bdeb858adeb9f6291f391840a78e425b9f3799ccea73761cbfbaa259", func := "pub-tallysheet/laws.FnIserr", spec := "fnIserr", unfollowed := true, recurses := true, apart := false }
def FnIserrSaid : Prop := fnIserrRow.holds Tryz.pinned (OpenSpec.ofChange fnIserrSpec)

/-- ITS FALSE NEIGHBOUR: 'it returns false'. Refute it at one input. -/
def fnIserrWrong : ChangeSpec := { name := "fnIserr", fn := fun _ => fun
  | [d1, d2, d3] => { results := [.lit (.bool false)], args := [d1, d2, d3] }
  | _ => none }
def FnIserrWrongFalsely : Prop := fnIserrRow.holds Tryz.pinned (OpenSpec.ofChange fnIserrWrong)

/-- 'laws.FnIserror': WHATEVER THE INPUT: true; the input reads as it did. -/
def fnIserrorSpec : ChangeSpec := { name := "fnIserror", fn := fun _ => fun
  | [d1, d2, d3] => { results := [.lit (.bool true)], args := [d1, d2, d3] }
  | _ => none }
def fnIserrorRow : OpenClaim := { program := "ytkkmfpjmnebjaaagreat", sum := "da5b42e5bdeb858adeb9f6291f391840a78e425b9f3799ccea73761cbfbaa259", func := "pub-tallysheet/laws.FnIserror", spec := "fnIserror", unfollowed := true, recurses := true, apart := false }
def FnIserrorSaid : Prop := fnIserrorRow.holds Tryz.pinned (OpenSpec.ofChange fnIserrorSpec)

/-- ITS FALSE NEIGHBOUR: 'it returns false'. Refute it at one input. -/
def fnIserrorWrong : ChangeSpec := { name := "fnIserror", fn := fun _ => fun
  | [d1, d2, d3] => { results := [.lit (.bool false)], args := [d1, d2, d3] }
  | _ => none }
def FnIserrorWrongFalsely : Prop := fnIserrorRow.holds Tryz.pinned (OpenSpec.ofChange fnIserrorWrong)

/-- 'laws.FnType': WHATEVER THE INPUT: true; the input reads as it did. -/
def fnTypeSpec : ChangeSpec := { name := "fnType", fn := fun _ => fun
  | [d1, d2, d3] => { results := [.lit (.bool true)], args := [d1, d2, d3] }
  | _ => none }
def fnTypeRow : OpenClaim := { program := "ytkkmfpjmnebjaaagreat", sum := "da5b42e5bdeb858adeb9f6291f391840a78e425b9f3799ccea73761cbfbaa259", func := "pub-tallysheet/laws.FnType", spec := "fnType", unfollowed := true, recurses := true, apart := false }
def FnTypeSaid : Prop := fnTypeRow.holds Tryz.pinned (OpenSpec.ofChange fnTypeSpec)

/-- ITS FALSE NEIGHBOUR: 'it returns false'. Refute it at one input. -/
def fnTypeWrong : ChangeSpec := { name := "fnType", fn := fun _ => fun
  | [d1, d2, d3] => { results := [.lit (.bool false)], args := [d1, d2, d3] }
  | _ => none }
def FnTypeWrongFalsely : Prop := fnTypeRow.holds Tryz.pinned (OpenSpec.ofChange fnTypeWrong)

/-- 'laws.FnIferror': WHATEVER THE INPUT: true; the input reads as it did. -/
def fnIferrorSpec : ChangeSpec := { name := "fnIferror", fn := fun _ => fun
  | [d1, d2, d3, d4, d5, d6] => { results := [.lit (.bool true)], args := [d1, d2, d3, d4, d5, d6] }
  | _ => none }
def fnIferrorRow : OpenClaim := { program := "ytkkmfpjmnebjaaagreat", sum := "da5b42e5bdeb858adeb9f6291f391840a78e425b9f3799ccea73761cbfbaa259", func := "pub-tallysheet/laws.FnIferror", spec := "fnIferror", unfollowed := true, recurses := true, apart := false }
def FnIferrorSaid : Prop := fnIferrorRow.holds Tryz.pinned (OpenSpec.ofChange fnIferrorSpec)

/-- ITS FALSE NEIGHBOUR: 'it returns false'. Refute it at one input. -/
def fnIferrorWrong : ChangeSpec := { name := "fnIferror", fn := fun _ => fun
  | [d1, d2, d3, d4, d5, d6] => { results := [.lit (.bool false)], args := [d1, d2, d3, d4, d5, d6] }
  | _ => none }
def FnIferrorWrongFalsely : Prop := fnIferrorRow.holds Tryz.pinned (OpenSpec.ofChange fnIferrorWrong)

/-- 'laws.FnCountblank': WHATEVER THE INPUT: true; the input reads as it did. -/
def fnCountblankSpec : ChangeSpec := { name := "fnCountblank", fn := fun _ => fun
  | [d1, d2] => { results := [.lit (.bool true)], args := [d1, d2] }
  | _ => none }
def fnCountblankRow : OpenClaim := { program := "ytkkmfpjmnebjaaagreat", sum := "da5b42e5bdeb858adeb9f6291f391840a78e425b9f3799ccea73761cbfbaa259", func := "pub-tallysheet/laws.FnCountblank", spec := "fnCountblank", unfollowed := true, recurses := true, apart := false }
def FnCountblankSaid : Prop := fnCountblankRow.holds Tryz.pinned (OpenSpec.ofChange fnCountblankSpec)

/-- ITS FALSE NEIGHBOUR: 'it returns false'. Refute it at one input. -/
def fnCountblankWrong : ChangeSpec := { name := "fnCountblank", fn := fun _ => fun
  | [d1, d2] => { results := [.lit (.bool false)], args := [d1, d2] }
  | _ => none }
def FnCountblankWrongFalsely : Prop := fnCountblankRow.holds Tryz.pinned (OpenSpec.ofChange fnCountblankWrong)

/-- 'laws.FnCounta': WHATEVER THE INPUT: true; the input reads as it did. -/
def fnCountaSpec : ChangeSpec := { name := "fnCounta", fn := fun _ => fun
  | [d1, d2, d3] => { results := [.lit (.bool true)], args := [d1, d2, d3] }
  | _ => none }
def fnCountaRow : OpenClaim := { program := "ytkkmfpjmnebjaaagreat", sum := "da5b42e5bdeb858adeb9f6291f391840a78e425b9f3799ccea73761cbfbaa259", func := "pub-tallysheet/laws.FnCounta", spec := "fnCounta", unfollowed := true, recurses := true, apart := false }
def FnCountaSaid : Prop := fnCountaRow.holds Tryz.pinned (OpenSpec.ofChange fnCountaSpec)

/-- ITS FALSE NEIGHBOUR: 'it returns false'. Refute it at one input. -/
def fnCountaWrong : ChangeSpec := { name := "fnCounta", fn := fun _ => fun
  | [d1, d2, d3] => { results := [.lit (.bool false)], args := [d1, d2, d3] }
  | _ => none }
def FnCountaWrongFalsely : Prop := fnCountaRow.holds Tryz.pinned (OpenSpec.ofChange fnCountaWrong)

/-- 'laws.FnNone': WHATEVER THE INPUT: true; the input reads as it did. -/
def fnNoneSpec : ChangeSpec := { name := "fnNone", fn := fun _ => fun
  | [] => { results := [.lit (.bool true)], args := [] }
  | _ => none }
def fnNoneRow : OpenClaim := { program := "ytkkmfpjmnebjaaagreat", sum := "da5b42e5bdeb858adeb9f6291f391840a78e425b9f3799ccea73761cbfbaa259", func := "pub-tallysheet/laws.FnNone", spec := "fnNone", unfollowed := true, recurses := true, apart := false }
def FnNoneSaid : Prop := fnNoneRow.holds Tryz.pinned (OpenSpec.ofChange fnNoneSpec)

/-- ITS FALSE NEIGHBOUR: 'it returns false'. Refute it at one input. -/
def fnNoneWrong : ChangeSpec := { name := "fnNone", fn := fun _ => fun
  | [] => { results := [.lit (.bool false)], args := [] }
  | _ => none }
def FnNoneWrongFalsely : Prop := fnNoneRow.holds Tryz.pinned (OpenSpec.ofChange fnNoneWrong)

/- THE SECOND FORM. 'bulk': how many values and letters a reading holds, each counted each time it is reached (what is shared counts as often as it is met; a slice's spare places count too). A statement '..UptoSaid' is the law's where the arguments, and the package variables that the reading takes, are together of bulk at most 1048576: NARROWER than '..Said'. Prove '..Said' where nothing that the law and all that it calls make is longer than what came in: it says more and counts as full. Else prove '..UptoSaid'. A law counts once. -/
mutual
def uptoBulk {H : Type} : DataW H → Nat
  | .lit (.string bytes) => bytes.length + 1
  | .lit _ => 1
  | .nil => 1
  | .ptr d => uptoBulk d + 1
  | .slice elems spare => uptoBulkAll elems + uptoBulkAll spare + 1
  | .agg parts => uptoBulkAll parts + 1
  | .iface _ d => uptoBulk d + 1
  | .map entries => uptoBulkEntries entries + 1
  | .held _ => 1
def uptoBulkAll {H : Type} : List (DataW H) → Nat
  | [] => 0
  | d :: r => uptoBulk d + uptoBulkAll r
def uptoBulkEntries {H : Type} : List (Lit × DataW H) → Nat
  | [] => 0
  | x :: r => uptoBulkEntry x + uptoBulkEntries r
def uptoBulkEntry {H : Type} : Lit × DataW H → Nat
  | (.string bytes, d) => bytes.length + uptoBulk d + 1
  | (_, d) => uptoBulk d + 1
 end
def uptoSmall : (H : Type) → List (DataW H) → Bool := fun _ ds => decide (uptoBulkAll ds ≤ 1048576)
def OpenSpec.upto (s : _root_.Go.ChangeSpec) : _root_.Go.OpenSpec := { _root_.Go.OpenSpec.ofChange s with cond := some uptoSmall }

/-- 'laws.FnIsna', WHERE WHAT IT READS IS OF BULK AT MOST 1048576: true; the input reads as it did. -/
def fnIsnaUptoRow : OpenClaim := { program := "ytkkmfpjmnebjaaagreat", sum := "da5b42e5bdeb858adeb9f6291f391840a78e425b9f3799ccea73761cbfbaa259", func := "pub-tallysheet/laws.FnIsna", spec := "fnIsna", unfollowed := true, recurses := true, apart := false, narrowed := true }
def FnIsnaUptoSaid : Prop := fnIsnaUptoRow.holds Tryz.pinned (OpenSpec.upto fnIsnaSpec)

/-- 'laws.FnIsnontext', WHERE WHAT IT READS IS OF BULK AT MOST 1048576: true; the input reads as it did. -/
def fnIsnontextUptoRow : OpenClaim := { program := "ytkkmfpjmnebjaaagreat", sum := "da5b42e5bdeb858adeb9f6291f391840a78e425b9f3799ccea73761cbfbaa259", func := "pub-tallysheet/laws.FnIsnontext", spec := "fnIsnontext", unfollowed := true, recurses := true, apart := false, narrowed := true }
def FnIsnontextUptoSaid : Prop := fnIsnontextUptoRow.holds Tryz.pinned (OpenSpec.upto fnIsnontextSpec)

/-- 'laws.FnIsblank', WHERE WHAT IT READS IS OF BULK AT MOST 1048576: true; the input reads as it did. -/
def fnIsblankUptoRow : OpenClaim := { program := "ytkkmfpjmnebjaaagreat", sum := "da5b42e5bdeb858adeb9f6291f391840a78e425b9f3799ccea73761cbfbaa259", func := "pub-tallysheet/laws.FnIsblank", spec := "fnIsblank", unfollowed := true, recurses := true, apart := false, narrowed := true }
def FnIsblankUptoSaid : Prop := fnIsblankUptoRow.holds Tryz.pinned (OpenSpec.upto fnIsblankSpec)

/-- 'laws.FnIfna', WHERE WHAT IT READS IS OF BULK AT MOST 1048576: true; the input reads as it did. -/
def fnIfnaUptoRow : OpenClaim := { program := "ytkkmfpjmnebjaaagreat", sum := "da5b42e5bdeb858adeb9f6291f391840a78e425b9f3799ccea73761cbfbaa259", func := "pub-tallysheet/laws.FnIfna", spec := "fnIfna", unfollowed := true, recurses := true, apart := false, narrowed := true }
def FnIfnaUptoSaid : Prop := fnIfnaUptoRow.holds Tryz.pinned (OpenSpec.upto fnIfnaSpec)

/-- 'laws.FnErrorType', WHERE WHAT IT READS IS OF BULK AT MOST 1048576: true; the input reads as it did. -/
def fnErrorTypeUptoRow : OpenClaim := { program := "ytkkmfpjmnebjaaagreat", sum := "da5b42e5bdeb858adeb9f6291f391840a78e425b9f3799ccea73761cbfbaa259", func := "pub-tallysheet/laws.FnErrorType", spec := "fnErrorType", unfollowed := true, recurses := true, apart := false, narrowed := true }
def FnErrorTypeUptoSaid : Prop := fnErrorTypeUptoRow.holds Tryz.pinned (OpenSpec.upto fnErrorTypeSpec)

/-- 'laws.FnIserr', WHERE WHAT IT READS IS OF BULK AT MOST 1048576: true; the input reads as it did. -/
def fnIserrUptoRow : OpenClaim := { program := "ytkkmfpjmnebjaaagreat", sum := "da5b42e5bdeb858adeb9f6291f391840a78e425b9f3799ccea73761cbfbaa259", func := "pub-tallysheet/laws.FnIserr", spec := "fnIserr", unfollowed := true, recurses := true, apart := false, narrowed := true }
def FnIserrUptoSaid : Prop := fnIserrUptoRow.holds Tryz.pinned (OpenSpec.upto fnIserrSpec)

/-- 'laws.FnIserror', WHERE WHAT IT READS IS OF BULK AT MOST 1048576: true; the input reads as it did. -/
def fnIserrorUptoRow : OpenClaim := { program := "ytkkmfpjmnebjaaagreat", sum := "da5b42e5bdeb858adeb9f6291f391840a78e425b9f3799ccea73761cbfbaa259", func := "pub-tallysheet/laws.FnIserror", spec := "fnIserror", unfollowed := true, recurses := true, apart := false, narrowed := true }
def FnIserrorUptoSaid : Prop := fnIserrorUptoRow.holds Tryz.pinned (OpenSpec.upto fnIserrorSpec)

/-- 'laws.FnType', WHERE WHAT IT READS IS OF BULK AT MOST 1048576: true; the input reads as it did. -/
def fnTypeUptoRow : OpenClaim := { program := "ytkkmfpjmnebjaaagreat", sum := "da5b42e5bdeb858adeb9f6291f391840a78e425b9f3799ccea73761cbfbaa259", func := "pub-tallysheet/laws.FnType", spec := "fnType", unfollowed := true, recurses := true, apart := false, narrowed := true }
def FnTypeUptoSaid : Prop := fnTypeUptoRow.holds Tryz.pinned (OpenSpec.upto fnTypeSpec)

/-- 'laws.FnIferror', WHERE WHAT IT READS IS OF BULK AT MOST 1048576: true; the input reads as it did. -/
def fnIferrorUptoRow : OpenClaim := { program := "ytkkmfpjmnebjaaagreat", sum := "da5b42e5bdeb858adeb9f6291f391840a78e425b9f3799ccea73761cbfbaa259", func := "pub-tallysheet/laws.FnIferror", spec := "fnIferror", unfollowed := true, recurses := true, apart := false, narrowed := true }
def FnIferrorUptoSaid : Prop := fnIferrorUptoRow.holds Tryz.pinned (OpenSpec.upto fnIferrorSpec)

/-- 'laws.FnCountblank', WHERE WHAT IT READS IS OF BULK AT MOST 1048576: true; the input reads as it did. -/
def fnCountblankUptoRow : OpenClaim := { program := "ytkkmfpjmnebjaaagreat", sum := "da5b42e5bdeb858adeb9f6291f391840a78e425b9f3799ccea73761cbfbaa259", func := "pub-tallysheet/laws.FnCountblank", spec := "fnCountblank", unfollowed := true, recurses := true, apart := false, narrowed := true }
def FnCountblankUptoSaid : Prop := fnCountblankUptoRow.holds Tryz.pinned (OpenSpec.upto fnCountblankSpec)

/-- 'laws.FnCounta', WHERE WHAT IT READS IS OF BULK AT MOST 1048576: true; the input reads as it did. -/
def fnCountaUptoRow : OpenClaim := { program := "ytkkmfpjmnebjaaagreat", sum := "da5b42e5bdeb858adeb9f6291f391840a78e425b9f3799ccea73761cbfbaa259", func := "pub-tallysheet/laws.FnCounta", spec := "fnCounta", unfollowed := true, recurses := true, apart := false, narrowed := true }
def FnCountaUptoSaid : Prop := fnCountaUptoRow.holds Tryz.pinned (OpenSpec.upto fnCountaSpec)

/-- 'laws.FnNone', WHERE WHAT IT READS IS OF BULK AT MOST 1048576: true; the input reads as it did. -/
def fnNoneUptoRow : OpenClaim := { program := "ytkkmfpjmnebjaaagreat", sum := "da5b42e5bdeb858adeb9f6291f391840a78e425b9f3799ccea73761cbfbaa259", func := "pub-tallysheet/laws.FnNone", spec := "fnNone", unfollowed := true, recurses := true, apart := false, narrowed := true }
def FnNoneUptoSaid : Prop := fnNoneUptoRow.holds Tryz.pinned (OpenSpec.upto fnNoneSpec)

end Rows
end Go.Proofs.YtkkmfpjmnebjaaaGreat
