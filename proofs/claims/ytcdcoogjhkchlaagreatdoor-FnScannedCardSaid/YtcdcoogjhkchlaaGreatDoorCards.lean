/-
  DERIVED. GIVEN WITH THE SEED: THE CARDS: each row of YtcdcoogjhkchlaaGreatDoorRows.lean that lists a variable, with what it lists TIED to the program's text (the seventh form; the later family's looks); each row that meets fmt, with fmt's text TOLD by the authors' own Lean function (tested against real Go, not proved from fmt's source: count such statements apart). THE CARD IS WHAT COUNTS. Prove the row's statement (the work); the ties are given (YtcdcoogjhkchlaaGreatDoorTie.lean); close each card by the builder's one call (the guide's Derived/Test/ToyasCard.lean, 'card_holds'). Laid BY PROGRAM, IN A SANDBOX (cutbox-door.mjs). By AI agents, Wed Nov 11 2026. No macro, syntax, notation, axiom, sorry.
-/
import Derived.Test.YtcdcoogjhkchlaaGreatDoorRows
import GoSem.ClaimSeven
namespace Go.Proofs.YtcdcoogjhkchlaaGreatDoor
namespace Rows

/-- THE TIED CARD OF 'laws.FnScanned'. -/
def fnScannedCard : Claim7 := { stood := { row := fnScannedRow, standIns := [], harness := (true, "b14bc9d4a3db2d00d3bb73cf4bbd554782cba056a8ab8dd7bb4c83e052c6e12f"), looks := true }, kinds := [], alts := [], laidByText := true, laidKinds := [.data, .data, .widerDeep, .widerDeep, .data, .data, .data, .data, .data, .sentinel, .sentinel, .sentinel, .pinned, .pinned], laidTests := true, laidLooks := .later }
def FnScannedCardSaid : Prop := Claim7.holds Tryz.pinned (.plain (OpenSpec.ofChange fnScannedSpec)) fnScannedCard

/-- THE SECOND FORM's CARD OF 'laws.FnScanned'. -/
def fnScannedUptoCard : Claim7 := { stood := { row := fnScannedUptoRow, standIns := [], harness := (true, "b14bc9d4a3db2d00d3bb73cf4bbd554782cba056a8ab8dd7bb4c83e052c6e12f"), looks := true }, kinds := [], alts := [], laidByText := true, laidKinds := [.data, .data, .widerDeep, .widerDeep, .data, .data, .data, .data, .data, .sentinel, .sentinel, .sentinel, .pinned, .pinned], laidTests := true, laidLooks := .later }
def FnScannedUptoCardSaid : Prop := Claim7.holds Tryz.pinned (.plain (OpenSpec.upto fnScannedSpec)) fnScannedUptoCard
end Rows
end Go.Proofs.YtcdcoogjhkchlaaGreatDoor
