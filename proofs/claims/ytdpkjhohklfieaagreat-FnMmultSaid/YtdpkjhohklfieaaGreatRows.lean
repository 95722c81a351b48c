/-
  No cell of these rows narrows 'for every input' (looked for: loops, veiled, ifaces, maps, wideKeys, modest, calm, conditions, laid).
  DERIVED. THE GIVEN ROWS OF THIS SEAT. 2 by the template 'for every input the law returns true; each argument reads behind the call as it read before'; 0 by the template 'total and deterministic' (their statements: YtdpkjhohklfieaaGreatTotals.lean).
  GIVEN WITH THE SEED: the statements are not yours to turn. If you find one false, say at which input.
  Laid BY PROGRAM, IN A SANDBOX (cutbox-rows.mjs): the forced cells as the released guide's own fill.sh prints them over the translation 4fde4bfa1644d27c… (all of the seat's roots in one cut). By AI agents, Wed Nov 11 2026. No macro, syntax, notation, axiom, sorry.
-/
import Derived.Test.YtdpkjhohklfieaaGreatChecked
import GoSem.Claim
import GoSem.ClaimJoined
import GoSem.ClaimMapViews
import Derived.JoinedTies
import Derived.KernelRfl
namespace Go.Proofs.YtdpkjhohklfieaaGreat
/- THE CELL 'sum', in the pinned program and in every row, IS THE sha256 OF THE DUMP (.gsa) THAT YtdpkjhohklfieaaGreatProg.lean LOADS. Nothing in Lean hashes anything: it is a label: what it is worth is what the hold of that sum in a sandbox is worth. -/
noncomputable def Tryz.pinned : Pinned := { name := "ytdpkjhohklfieaagreat", sum := "4fde4bfa1644d27c30a3119f2e8202b12c9e4bcbdf656ef4681a72404795a138", checked := Tryz.checked }
namespace Rows
def none {H : Type} : Left H := { results := [], args := [] }

/-- 'laws.FnMmult': WHATEVER THE INPUT: true; the input reads as it did. -/
def fnMmultSpec : ChangeSpec := { name := "fnMmult", fn := fun _ => fun
  | [d1, d2, d3, d4] => { results := [.lit (.bool true)], args := [d1, d2, d3, d4] }
  | _ => none }
def fnMmultRow : OpenClaim := { program := "ytdpkjhohklfieaagreat", sum := "4fde4bfa1644d27c30a3119f2e8202b12c9e4bcbdf656ef4681a72404795a138", func := "pub-tallysheet/laws.FnMmult", spec := "fnMmult", unfollowed := true, recurses := true, apart := false }
def FnMmultSaid : Prop := fnMmultRow.holds Tryz.pinned (OpenSpec.ofChange fnMmultSpec)

/-- ITS FALSE NEIGHBOUR: 'it returns false'. Refute it at one input. -/
def fnMmultWrong : ChangeSpec := { name := "fnMmult", fn := fun _ => fun
  | [d1, d2, d3, d4] => { results := [.lit (.bool false)], args := [d1, d2, d3, d4] }
  | _ => none }
def FnMmultWrongFalsely : Prop := fnMmultRow.holds Tryz.pinned (OpenSpec.ofChange fnMmultWrong)

/-- 'laws.FnTranspose': WHATEVER THE INPUT: true; the input reads as it did. -/
def fnTransposeSpec : ChangeSpec := { name := "fnTranspose", fn := fun _ => fun
  | [d1, d2] => { results := [.lit (.bool true)], args := [d1, d2] }
  | _ => none }
def fnTransposeRow : OpenClaim := { program := "ytdpkjhohklfieaagreat", sum := "4fde4bfa1644d27c30a3119f2e8202b12c9e4bcbdf656ef4681a72404795a138", func := "pub-tallysheet/laws.FnTranspose", spec := "fnTranspose", unfollowed := true, recurses := true, apart := false }
def FnTransposeSaid : Prop := fnTransposeRow.holds Tryz.pinned (OpenSpec.ofChange fnTransposeSpec)

/-- ITS FALSE NEIGHBOUR: 'it returns false'. Refute it at one input. -/
def fnTransposeWrong : ChangeSpec := { name := "fnTranspose", fn := fun _ => fun
  | [d1, d2] => { results := [.lit (.bool false)], args := [d1, d2] }
  | _ => none }
def FnTransposeWrongFalsely : Prop := fnTransposeRow.holds Tryz.pinned (OpenSpec.ofChange fnTransposeWrong)

/- THE SECOND FORM. 'bulk': how many values and letters a reading holds, each counted each time it is reached (what is shared counts as often as it is met; a slice's spare places count too). A statement '..UptoSaid' is the law's where the arguments, and the package variables that the reading takes, are together of bulk at most 1048576: NARROWER than '..Said'. Prove '..Said' where nothing that the law and all that it calls make is longer than what came in: it says more and counts as full. Else prove '..UptoSaid'. A law counts once. -/
mutual
def uptoBulk {H : Type} : DataW H → Nat
  | .lit (.string bytes) => bytes.length + 1
  | .lit _ => 1
  | .nil => 1
  | .ptr d => uptoBulk d + 1
  | .slice elems spare => uptoBulkAll elems + uptoBulkAll spare + 1
  | .agg parts => uptoBulkAll parts + 1
  | .iface _ d => uptoBulk d + 1
  | .map entries => uptoBulkEntries entries + 1
  | .held _ => 1
def uptoBulkAll {H : Type} : List (DataW H) → Nat
  | [] => 0
  | d :: r => uptoBulk d + uptoBulkAll r
def uptoBulkEntries {H : Type} : List (Lit × DataW H) → Nat
  | [] => 0
  | x :: r => uptoBulkEntry x + uptoBulkEntries r
def uptoBulkEntry {H : Type} : Lit × DataW H → Nat
  | (.string bytes, d) => bytes.length + uptoBulk d + 1
  | (_, d) => uptoBulk d + 1
 end
def uptoSmall : (H : Type) → List (DataW H) → Bool := fun _ ds => decide (uptoBulkAll ds ≤ 1048576)
def OpenSpec.upto (s : _root_.Go.ChangeSpec) : _root_.Go.OpenSpec := { _root_.Go.OpenSpec.ofChange s with cond := some uptoSmall }

/-- 'laws.FnMmult', WHERE WHAT IT READS IS OF BULK AT MOST 1048576: true; the input reads as it did. -/
def fnMmultUptoRow : OpenClaim := { program := "ytdpkjhohklfieaagreat", sum := "4fde4bfa1644d27c30a3119f2e8202b12c9e4bcbdf656ef4681a72404795a138", func := "pub-tallysheet/laws.FnMmult", spec := "fnMmult", unfollowed := true, recurses := true, apart := false, narrowed := true }
def FnMmultUptoSaid : Prop := fnMmultUptoRow.holds Tryz.pinned (OpenSpec.upto fnMmultSpec)

/-- 'laws.FnTranspose', WHERE WHAT IT READS IS OF BULK AT MOST 1048576: true; the input reads as it did. -/
def fnTransposeUptoRow : OpenClaim := { program := "ytdpkjhohklfieaagreat", sum := "4fde4bfa1644d27c30a3119f2e8202b12c9e4bcbdf656ef4681a72404795a138", func := "pub-tallysheet/laws.FnTranspose", spec := "fnTranspose", unfollowed := true, recurses := true, apart := false, narrowed := true }
def FnTransposeUptoSaid : Prop := fnTransposeUptoRow.holds Tryz.pinned (OpenSpec.upto fnTransposeSpec)

end Rows
end Go.Proofs.YtdpkjhohklfieaaGreat
