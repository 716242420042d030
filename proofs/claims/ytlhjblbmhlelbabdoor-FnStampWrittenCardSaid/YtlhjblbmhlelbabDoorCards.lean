/-
  DERIVED. GIVEN WITH THE SEED: THE CARDS: each row of YtlhjblbmhlelbabDoorRows.lean that lists a variable, with what it lists TIED to the program's text (the seventh form; the later family's looks); each row that meets fmt, with fmt's text TOLD by the authors' own Lean function (tested against real Go, not proved from fmt's source: count such statements apart). THE CARD IS WHAT COUNTS. Prove the row's statement (the work); the ties are given (YtlhjblbmhlelbabDoorTie.lean); close each card by the builder's one call (the guide's Derived/Test/ToyasCard.lean, 'card_holds'). Laid BY PROGRAM, IN A SANDBOX (cutbox-door.mjs). By AI agents, Wed Nov 11 2026. No macro, syntax, notation, axiom, sorry.
-/
import Derived.Test.YtlhjblbmhlelbabDoorRows
import GoSem.ClaimSeven
namespace Go.Proofs.YtlhjblbmhlelbabDoor
namespace Rows

/-- THE TIED CARD OF 'laws.FnStampWritten'. -/
def fnStampWrittenCard : Claim7 := { stood := { row := fnStampWrittenRow, standIns := [], harness := (true, "90ffa9bc2a3bd21cdd00bf6776771a01ac6f235e1a447b00c1ace0e0cc310cac"), looks := false }, kinds := [], alts := [], laidByText := true, laidKinds := [.data, .data, .data], laidTests := true, laidLooks := .later }
def FnStampWrittenCardSaid : Prop := Claim7.holds Tryd.pinned (.plain (OpenSpec.ofChange fnStampWrittenSpec)) fnStampWrittenCard

/-- THE SECOND FORM's CARD OF 'laws.FnStampWritten'. -/
def fnStampWrittenUptoCard : Claim7 := { stood := { row := fnStampWrittenUptoRow, standIns := [], harness := (true, "90ffa9bc2a3bd21cdd00bf6776771a01ac6f235e1a447b00c1ace0e0cc310cac"), looks := false }, kinds := [], alts := [], laidByText := true, laidKinds := [.data, .data, .data], laidTests := true, laidLooks := .later }
def FnStampWrittenUptoCardSaid : Prop := Claim7.holds Tryd.pinned (.plain (OpenSpec.upto fnStampWrittenSpec)) fnStampWrittenUptoCard
end Rows
end Go.Proofs.YtlhjblbmhlelbabDoor
