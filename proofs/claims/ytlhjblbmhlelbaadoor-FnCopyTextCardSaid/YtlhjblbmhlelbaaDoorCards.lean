/-
  DERIVED. GIVEN WITH THE SEED: THE CARDS: each row of YtlhjblbmhlelbaaDoorRows.lean that lists a variable, with what it lists TIED to the program's text (the seventh form; the later family's looks); each row that meets fmt, with fmt's text TOLD by the authors' own Lean function (tested against real Go, not proved from fmt's source: count such statements apart). THE CARD IS WHAT COUNTS. Prove the row's statement (the work); the ties are given (YtlhjblbmhlelbaaDoorTie.lean); close each card by the builder's one call (the guide's Derived/Test/ToyasCard.lean, 'card_holds'). Laid BY PROGRAM, IN A SANDBOX (cutbox-door.mjs). By AI agents, Wed Nov 11 2026. No macro, syntax, notation, axiom, sorry.
-/
import Derived.Test.YtlhjblbmhlelbaaDoorRows
import GoSem.ClaimSeven
namespace Go.Proofs.YtlhjblbmhlelbaaDoor
namespace Rows

/-- THE TIED CARD OF 'laws.FnCopyIn'. -/
def fnCopyInCard : Claim7 := { stood := { row := fnCopyInRow, standIns := [], harness := (true, "bd9ddd8fe9dea1138222136d3a46e7ef3ebae689ea19bceb66af7247b6ce487e"), looks := true }, kinds := [], alts := [], laidByText := true, laidKinds := [.sentinel], laidTests := true, laidLooks := .later }
def FnCopyInCardSaid : Prop := Claim7.holds Tryd.pinned (.plain (OpenSpec.ofChange fnCopyInSpec)) fnCopyInCard

/-- THE TIED CARD OF 'laws.FnEncoded'. -/
def fnEncodedCard : Claim7 := { stood := { row := fnEncodedRow, standIns := [], harness := (true, "bd9ddd8fe9dea1138222136d3a46e7ef3ebae689ea19bceb66af7247b6ce487e"), looks := true }, kinds := [], alts := [], laidByText := true, laidKinds := [.data, .data, .data, .data, .pinned, .pinned], laidTests := true, laidLooks := .later }
def FnEncodedCardSaid : Prop := Claim7.holds Tryd.pinned (.plain (OpenSpec.ofChange fnEncodedSpec)) fnEncodedCard

/-- THE TIED CARD OF 'laws.FnCopyText'. -/
def fnCopyTextCard : Claim7 := { stood := { row := fnCopyTextRow, standIns := [], harness := (true, "bd9ddd8fe9dea1138222136d3a46e7ef3ebae689ea19bceb66af7247b6ce487e"), looks := true }, kinds := [], alts := [], laidByText := true, laidKinds := [.data, .data, .data, .data, .pinned, .pinned], laidTests := true, laidLooks := .later }
def FnCopyTextCardSaid : Prop := Claim7.holds Tryd.pinned (.plain (OpenSpec.ofChange fnCopyTextSpec)) fnCopyTextCard

/-- THE SECOND FORM's CARD OF 'laws.FnCopyIn'. -/
def fnCopyInUptoCard : Claim7 := { stood := { row := fnCopyInUptoRow, standIns := [], harness := (true, "bd9ddd8fe9dea1138222136d3a46e7ef3ebae689ea19bceb66af7247b6ce487e"), looks := true }, kinds := [], alts := [], laidByText := true, laidKinds := [.sentinel], laidTests := true, laidLooks := .later }
def FnCopyInUptoCardSaid : Prop := Claim7.holds Tryd.pinned (.plain (OpenSpec.upto fnCopyInSpec)) fnCopyInUptoCard

/-- THE SECOND FORM's CARD OF 'laws.FnEncoded'. -/
def fnEncodedUptoCard : Claim7 := { stood := { row := fnEncodedUptoRow, standIns := [], harness := (true, "bd9ddd8fe9dea1138222136d3a46e7ef3ebae689ea19bceb66af7247b6ce487e"), looks := true }, kinds := [], alts := [], laidByText := true, laidKinds := [.data, .data, .data, .data, .pinned, .pinned], laidTests := true, laidLooks := .later }
def FnEncodedUptoCardSaid : Prop := Claim7.holds Tryd.pinned (.plain (OpenSpec.upto fnEncodedSpec)) fnEncodedUptoCard

/-- THE SECOND FORM's CARD OF 'laws.FnCopyText'. -/
def fnCopyTextUptoCard : Claim7 := { stood := { row := fnCopyTextUptoRow, standIns := [], harness := (true, "bd9ddd8fe9dea1138222136d3a46e7ef3ebae689ea19bceb66af7247b6ce487e"), looks := true }, kinds := [], alts := [], laidByText := true, laidKinds := [.data, .data, .data, .data, .pinned, .pinned], laidTests := true, laidLooks := .later }
def FnCopyTextUptoCardSaid : Prop := Claim7.holds Tryd.pinned (.plain (OpenSpec.upto fnCopyTextSpec)) fnCopyTextUptoCard
end Rows
end Go.Proofs.YtlhjblbmhlelbaaDoor
