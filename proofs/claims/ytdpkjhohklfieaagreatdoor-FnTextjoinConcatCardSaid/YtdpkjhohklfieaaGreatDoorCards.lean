/-
  DERIVED. GIVEN WITH THE SEED: THE CARDS: each row of YtdpkjhohklfieaaGreatDoorRows.lean that lists a variable, with what it lists TIED to the program's text (the seventh form; the later family's looks); each row that meets fmt, with fmt's text TOLD by the authors' own Lean function (tested against real Go, not proved from fmt's source: count such statements apart). THE CARD IS WHAT COUNTS. Prove the row's statement (the work); the ties are given (YtdpkjhohklfieaaGreatDoorTie.lean); close each card by the builder's one call (the guide's Derived/Test/ToyasCard.lean, 'card_holds'). Laid BY PROGRAM, IN A SANDBOX (cutbox-door.mjs). By AI agents, Wed Nov 11 2026. No macro, syntax, notation, axiom, sorry.
-/
import Derived.Test.YtdpkjhohklfieaaGreatDoorRows
import GoSem.ClaimSeven
namespace Go.Proofs.YtdpkjhohklfieaaGreatDoor
namespace Rows

/-- THE TIED CARD OF 'laws.FnTrimTwice'. -/
def fnTrimTwiceCard : Claim7 := { stood := { row := fnTrimTwiceRow, standIns := [], harness := (true, "16763c9b6e0d9080d4ae1c7d29425b31a6dabe85d813cdbeede800865c6d9c0b"), looks := true }, kinds := [], alts := [], laidByText := true, laidKinds := [.data, .data, .data, .data, .pinned, .pinned], laidTests := true, laidLooks := .later }
def FnTrimTwiceCardSaid : Prop := Claim7.holds Tryz.pinned (.plain (OpenSpec.ofChange fnTrimTwiceSpec)) fnTrimTwiceCard

/-- THE TIED CARD OF 'laws.FnTextjoinConcat'. -/
def fnTextjoinConcatCard : Claim7 := { stood := { row := fnTextjoinConcatRow, standIns := [], harness := (true, "16763c9b6e0d9080d4ae1c7d29425b31a6dabe85d813cdbeede800865c6d9c0b"), looks := true }, kinds := [], alts := [], laidByText := true, laidKinds := [.data, .data, .data, .data, .sentinel, .pinned, .pinned], laidTests := true, laidLooks := .later }
def FnTextjoinConcatCardSaid : Prop := Claim7.holds Tryz.pinned (.plain (OpenSpec.ofChange fnTextjoinConcatSpec)) fnTextjoinConcatCard

/-- THE SECOND FORM's CARD OF 'laws.FnTrimTwice'. -/
def fnTrimTwiceUptoCard : Claim7 := { stood := { row := fnTrimTwiceUptoRow, standIns := [], harness := (true, "16763c9b6e0d9080d4ae1c7d29425b31a6dabe85d813cdbeede800865c6d9c0b"), looks := true }, kinds := [], alts := [], laidByText := true, laidKinds := [.data, .data, .data, .data, .pinned, .pinned], laidTests := true, laidLooks := .later }
def FnTrimTwiceUptoCardSaid : Prop := Claim7.holds Tryz.pinned (.plain (OpenSpec.upto fnTrimTwiceSpec)) fnTrimTwiceUptoCard

/-- THE SECOND FORM's CARD OF 'laws.FnTextjoinConcat'. -/
def fnTextjoinConcatUptoCard : Claim7 := { stood := { row := fnTextjoinConcatUptoRow, standIns := [], harness := (true, "16763c9b6e0d9080d4ae1c7d29425b31a6dabe85d813cdbeede800865c6d9c0b"), looks := true }, kinds := [], alts := [], laidByText := true, laidKinds := [.data, .data, .data, .data, .sentinel, .pinned, .pinned], laidTests := true, laidLooks := .later }
def FnTextjoinConcatUptoCardSaid : Prop := Claim7.holds Tryz.pinned (.plain (OpenSpec.upto fnTextjoinConcatSpec)) fnTextjoinConcatUptoCard
end Rows
end Go.Proofs.YtdpkjhohklfieaaGreatDoor
