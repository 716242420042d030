/-
  DERIVED. GIVEN WITH THE SEED: THE CARDS: each row of YthcikkjjegfblacDoorRows.lean that lists a variable, with what it lists TIED to the program's text (the seventh form; the later family's looks); each row that meets fmt, with fmt's text TOLD by the authors' own Lean function (tested against real Go, not proved from fmt's source: count such statements apart). THE CARD IS WHAT COUNTS. Prove the row's statement (the work); the ties are given (YthcikkjjegfblacDoorTie.lean); close each card by the builder's one call (the guide's Derived/Test/ToyasCard.lean, 'card_holds'). Laid BY PROGRAM, IN A SANDBOX (cutbox-door.mjs). By AI agents, Wed Nov 11 2026. No macro, syntax, notation, axiom, sorry.
-/
import Derived.Test.YthcikkjjegfblacDoorRows
import GoSem.ClaimSeven
namespace Go.Proofs.YthcikkjjegfblacDoor
namespace Rows

/-- THE TIED CARD OF 'laws.FnHstoreWritten'. -/
def fnHstoreWrittenCard : Claim7 := { stood := { row := fnHstoreWrittenRow, standIns := [], harness := (true, "40f6faa5de6f7f67632f8df2bee1e20e79f7c3cb43d74bdc65fdc1c0aaaead81"), looks := true }, kinds := [], alts := [], laidByText := true, laidKinds := [.sentinel], laidTests := true, laidLooks := .later }
def FnHstoreWrittenCardSaid : Prop := Claim7.holds Tryd.pinned (.plain (OpenSpec.ofChange fnHstoreWrittenSpec)) fnHstoreWrittenCard

/-- THE TIED CARD OF 'laws.FnTag'. -/
def fnTagCard : Claim7 := { stood := { row := fnTagRow, standIns := [], harness := (true, "40f6faa5de6f7f67632f8df2bee1e20e79f7c3cb43d74bdc65fdc1c0aaaead81"), looks := true }, kinds := [], alts := [], laidByText := true, laidKinds := [.data, .data, .data, .sentinel, .sentinel], laidTests := true, laidLooks := .later }
def FnTagCardSaid : Prop := Claim7.holds Tryd.pinned (.plain (OpenSpec.ofChange fnTagSpec)) fnTagCard

/-- THE TIED CARD OF 'laws.FnTagRefused'. -/
def fnTagRefusedCard : Claim7 := { stood := { row := fnTagRefusedRow, standIns := [], harness := (true, "40f6faa5de6f7f67632f8df2bee1e20e79f7c3cb43d74bdc65fdc1c0aaaead81"), looks := true }, kinds := [], alts := [], laidByText := true, laidKinds := [.data, .data, .data, .sentinel, .sentinel], laidTests := true, laidLooks := .later }
def FnTagRefusedCardSaid : Prop := Claim7.holds Tryd.pinned (.plain (OpenSpec.ofChange fnTagRefusedSpec)) fnTagRefusedCard

/-- THE TIED CARD OF 'laws.FnByteaEscape'. -/
def fnByteaEscapeCard : Claim7 := { stood := { row := fnByteaEscapeRow, standIns := [], harness := (true, "40f6faa5de6f7f67632f8df2bee1e20e79f7c3cb43d74bdc65fdc1c0aaaead81"), looks := true }, kinds := [], alts := [], laidByText := true, laidKinds := [.data, .data, .data, .sentinel, .sentinel, .sentinel], laidTests := true, laidLooks := .later }
def FnByteaEscapeCardSaid : Prop := Claim7.holds Tryd.pinned (.plain (OpenSpec.ofChange fnByteaEscapeSpec)) fnByteaEscapeCard

/-- THE SECOND FORM's CARD OF 'laws.FnHstoreWritten'. -/
def fnHstoreWrittenUptoCard : Claim7 := { stood := { row := fnHstoreWrittenUptoRow, standIns := [], harness := (true, "40f6faa5de6f7f67632f8df2bee1e20e79f7c3cb43d74bdc65fdc1c0aaaead81"), looks := true }, kinds := [], alts := [], laidByText := true, laidKinds := [.sentinel], laidTests := true, laidLooks := .later }
def FnHstoreWrittenUptoCardSaid : Prop := Claim7.holds Tryd.pinned (.plain (OpenSpec.upto fnHstoreWrittenSpec)) fnHstoreWrittenUptoCard

/-- THE SECOND FORM's CARD OF 'laws.FnTag'. -/
def fnTagUptoCard : Claim7 := { stood := { row := fnTagUptoRow, standIns := [], harness := (true, "40f6faa5de6f7f67632f8df2bee1e20e79f7c3cb43d74bdc65fdc1c0aaaead81"), looks := true }, kinds := [], alts := [], laidByText := true, laidKinds := [.data, .data, .data, .sentinel, .sentinel], laidTests := true, laidLooks := .later }
def FnTagUptoCardSaid : Prop := Claim7.holds Tryd.pinned (.plain (OpenSpec.upto fnTagSpec)) fnTagUptoCard

/-- THE SECOND FORM's CARD OF 'laws.FnTagRefused'. -/
def fnTagRefusedUptoCard : Claim7 := { stood := { row := fnTagRefusedUptoRow, standIns := [], harness := (true, "40f6faa5de6f7f67632f8df2bee1e20e79f7c3cb43d74bdc65fdc1c0aaaead81"), looks := true }, kinds := [], alts := [], laidByText := true, laidKinds := [.data, .data, .data, .sentinel, .sentinel], laidTests := true, laidLooks := .later }
def FnTagRefusedUptoCardSaid : Prop := Claim7.holds Tryd.pinned (.plain (OpenSpec.upto fnTagRefusedSpec)) fnTagRefusedUptoCard

/-- THE SECOND FORM's CARD OF 'laws.FnByteaEscape'. -/
def fnByteaEscapeUptoCard : Claim7 := { stood := { row := fnByteaEscapeUptoRow, standIns := [], harness := (true, "40f6faa5de6f7f67632f8df2bee1e20e79f7c3cb43d74bdc65fdc1c0aaaead81"), looks := true }, kinds := [], alts := [], laidByText := true, laidKinds := [.data, .data, .data, .sentinel, .sentinel, .sentinel], laidTests := true, laidLooks := .later }
def FnByteaEscapeUptoCardSaid : Prop := Claim7.holds Tryd.pinned (.plain (OpenSpec.upto fnByteaEscapeSpec)) fnByteaEscapeUptoCard
end Rows
end Go.Proofs.YthcikkjjegfblacDoor
