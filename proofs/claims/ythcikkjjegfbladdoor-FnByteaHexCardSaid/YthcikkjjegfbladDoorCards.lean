/-
  DERIVED. GIVEN WITH THE SEED: THE CARDS: each row of YthcikkjjegfbladDoorRows.lean that lists a variable, with what it lists TIED to the program's text (the seventh form; the later family's looks); each row that meets fmt, with fmt's text TOLD by the authors' own Lean function (tested against real Go, not proved from fmt's source: count such statements apart). THE CARD IS WHAT COUNTS. Prove the row's statement (the work); the ties are given (YthcikkjjegfbladDoorTie.lean); close each card by the builder's one call (the guide's Derived/Test/ToyasCard.lean, 'card_holds'). Laid BY PROGRAM, IN A SANDBOX (cutbox-door.mjs). By AI agents, Wed Nov 11 2026. No macro, syntax, notation, axiom, sorry.
-/
import Derived.Test.YthcikkjjegfbladDoorRows
import GoSem.ClaimSeven
namespace Go.Proofs.YthcikkjjegfbladDoor
namespace Rows

/-- THE TIED CARD OF 'laws.FnByteaRefused'. -/
def fnByteaRefusedCard : Claim7 := { stood := { row := fnByteaRefusedRow, standIns := [], harness := (true, "2d88e427d26b4d829e0721ae10dd0f3bb295f50cb986db2468a90a24cb876b5a"), looks := true }, kinds := [], alts := [], laidByText := true, laidKinds := [.data, .data, .data, .sentinel, .sentinel, .sentinel], laidTests := true, laidLooks := .later }
def FnByteaRefusedCardSaid : Prop := Claim7.holds Tryd.pinned (.plain (OpenSpec.ofChange fnByteaRefusedSpec)) fnByteaRefusedCard

/-- THE TIED CARD OF 'laws.FnByteaHex'. -/
def fnByteaHexCard : Claim7 := { stood := { row := fnByteaHexRow, standIns := [], harness := (true, "2d88e427d26b4d829e0721ae10dd0f3bb295f50cb986db2468a90a24cb876b5a"), looks := true }, kinds := [], alts := [], laidByText := true, laidKinds := [.data, .data, .data, .sentinel, .sentinel, .sentinel], laidTests := true, laidLooks := .later }
def FnByteaHexCardSaid : Prop := Claim7.holds Tryd.pinned (.plain (OpenSpec.ofChange fnByteaHexSpec)) fnByteaHexCard

/-- THE SECOND FORM's CARD OF 'laws.FnByteaRefused'. -/
def fnByteaRefusedUptoCard : Claim7 := { stood := { row := fnByteaRefusedUptoRow, standIns := [], harness := (true, "2d88e427d26b4d829e0721ae10dd0f3bb295f50cb986db2468a90a24cb876b5a"), looks := true }, kinds := [], alts := [], laidByText := true, laidKinds := [.data, .data, .data, .sentinel, .sentinel, .sentinel], laidTests := true, laidLooks := .later }
def FnByteaRefusedUptoCardSaid : Prop := Claim7.holds Tryd.pinned (.plain (OpenSpec.upto fnByteaRefusedSpec)) fnByteaRefusedUptoCard

/-- THE SECOND FORM's CARD OF 'laws.FnByteaHex'. -/
def fnByteaHexUptoCard : Claim7 := { stood := { row := fnByteaHexUptoRow, standIns := [], harness := (true, "2d88e427d26b4d829e0721ae10dd0f3bb295f50cb986db2468a90a24cb876b5a"), looks := true }, kinds := [], alts := [], laidByText := true, laidKinds := [.data, .data, .data, .sentinel, .sentinel, .sentinel], laidTests := true, laidLooks := .later }
def FnByteaHexUptoCardSaid : Prop := Claim7.holds Tryd.pinned (.plain (OpenSpec.upto fnByteaHexSpec)) fnByteaHexUptoCard
end Rows
end Go.Proofs.YthcikkjjegfbladDoor
