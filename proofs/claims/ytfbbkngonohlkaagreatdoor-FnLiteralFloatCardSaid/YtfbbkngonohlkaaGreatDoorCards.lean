/-
  DERIVED. GIVEN WITH THE SEED: THE CARDS: each row of YtfbbkngonohlkaaGreatDoorRows.lean that lists a variable, with what it lists TIED to the program's text (the seventh form; the later family's looks); each row that meets fmt, with fmt's text TOLD by the authors' own Lean function (tested against real Go, not proved from fmt's source: count such statements apart). THE CARD IS WHAT COUNTS. Prove the row's statement (the work); the ties are given (YtfbbkngonohlkaaGreatDoorTie.lean); close each card by the builder's one call (the guide's Derived/Test/ToyasCard.lean, 'card_holds'). Laid BY PROGRAM, IN A SANDBOX (cutbox-door.mjs). By AI agents, Wed Nov 11 2026. No macro, syntax, notation, axiom, sorry.
-/
import Derived.Test.YtfbbkngonohlkaaGreatDoorRows
import GoSem.ClaimSeven
namespace Go.Proofs.YtfbbkngonohlkaaGreatDoor
namespace Rows

/-- THE TIED CARD OF 'laws.FnLiteralFloat'. -/
def fnLiteralFloatCard : Claim7 := { stood := { row := fnLiteralFloatRow, standIns := [], harness := (true, "9bd208ad0ba465942f91f4d3933930092dc1c8c0c20362e61b55920ecead1fdd"), looks := true }, kinds := [], alts := [], laidByText := true, laidKinds := [.data, .data, .data, .data, .sentinel, .sentinel, .sentinel, .data, .sentinel, .sentinel, .data, .data, .data, .data, .pinned], laidTests := true, laidLooks := .later }
def FnLiteralFloatCardSaid : Prop := Claim7.holds Tryz.pinned (.plain (OpenSpec.ofChange fnLiteralFloatSpec)) fnLiteralFloatCard

/-- THE TIED CARD OF 'laws.FnLiteralImag'. -/
def fnLiteralImagCard : Claim7 := { stood := { row := fnLiteralImagRow, standIns := [], harness := (true, "9bd208ad0ba465942f91f4d3933930092dc1c8c0c20362e61b55920ecead1fdd"), looks := true }, kinds := [], alts := [], laidByText := true, laidKinds := [.data, .data, .data, .data, .sentinel, .sentinel, .sentinel, .data, .sentinel, .sentinel, .data, .data, .data, .data, .pinned], laidTests := true, laidLooks := .later }
def FnLiteralImagCardSaid : Prop := Claim7.holds Tryz.pinned (.plain (OpenSpec.ofChange fnLiteralImagSpec)) fnLiteralImagCard

/-- THE SECOND FORM's CARD OF 'laws.FnLiteralFloat'. -/
def fnLiteralFloatUptoCard : Claim7 := { stood := { row := fnLiteralFloatUptoRow, standIns := [], harness := (true, "9bd208ad0ba465942f91f4d3933930092dc1c8c0c20362e61b55920ecead1fdd"), looks := true }, kinds := [], alts := [], laidByText := true, laidKinds := [.data, .data, .data, .data, .sentinel, .sentinel, .sentinel, .data, .sentinel, .sentinel, .data, .data, .data, .data, .pinned], laidTests := true, laidLooks := .later }
def FnLiteralFloatUptoCardSaid : Prop := Claim7.holds Tryz.pinned (.plain (OpenSpec.upto fnLiteralFloatSpec)) fnLiteralFloatUptoCard

/-- THE SECOND FORM's CARD OF 'laws.FnLiteralImag'. -/
def fnLiteralImagUptoCard : Claim7 := { stood := { row := fnLiteralImagUptoRow, standIns := [], harness := (true, "9bd208ad0ba465942f91f4d3933930092dc1c8c0c20362e61b55920ecead1fdd"), looks := true }, kinds := [], alts := [], laidByText := true, laidKinds := [.data, .data, .data, .data, .sentinel, .sentinel, .sentinel, .data, .sentinel, .sentinel, .data, .data, .data, .data, .pinned], laidTests := true, laidLooks := .later }
def FnLiteralImagUptoCardSaid : Prop := Claim7.holds Tryz.pinned (.plain (OpenSpec.upto fnLiteralImagSpec)) fnLiteralImagUptoCard
end Rows
end Go.Proofs.YtfbbkngonohlkaaGreatDoor
