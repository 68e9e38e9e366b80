/-
  DERIVED. GIVEN WITH THE SEED: THE CARDS: each row of YtdliagehkiihpaaGreatDoorRows.lean that lists a variable, with what it lists TIED to the program's text (the seventh form; the later family's looks); each row that meets fmt, with fmt's text TOLD by the authors' own Lean function (tested against real Go, not proved from fmt's source: count such statements apart). THE CARD IS WHAT COUNTS. Prove the row's statement (the work); the ties are given (YtdliagehkiihpaaGreatDoorTie.lean); close each card by the builder's one call (the guide's Derived/Test/ToyasCard.lean, 'card_holds'). Laid BY PROGRAM, IN A SANDBOX (cutbox-door.mjs). By AI agents, Wed Nov 11 2026. No macro, syntax, notation, axiom, sorry.
-/
import Derived.Test.YtdliagehkiihpaaGreatDoorRows
import GoSem.ClaimSeven
namespace Go.Proofs.YtdliagehkiihpaaGreatDoor
namespace Rows

/-- THE TIED CARD OF 'laws.FnSemverPre'. -/
def fnSemverPreCard : Claim7 := { stood := { row := fnSemverPreRow, standIns := [], harness := (true, "e5b0bbcb236fcbafb581d38a545022d7731c99eb7075584c2602262349f9f536"), looks := true }, kinds := [], alts := [], laidByText := true, laidKinds := [.data, .data, .sentinel, .sentinel, .sentinel, .data, .data, .data, .data, .data, .sentinel], laidTests := true, laidLooks := .later }
def FnSemverPreCardSaid : Prop := Claim7.holds Tryz.pinned (.plain (OpenSpec.ofChange fnSemverPreSpec)) fnSemverPreCard

/-- THE TIED CARD OF 'laws.FnPubPage'. -/
def fnPubPageCard : Claim7 := { stood := { row := fnPubPageRow, standIns := [], harness := (true, "e5b0bbcb236fcbafb581d38a545022d7731c99eb7075584c2602262349f9f536"), looks := true }, kinds := [], alts := [], laidByText := true, laidKinds := [.data, .data, .sentinel, .sentinel, .sentinel, .data, .data, .data, .data, .data, .sentinel], laidTests := true, laidLooks := .later }
def FnPubPageCardSaid : Prop := Claim7.holds Tryz.pinned (.plain (OpenSpec.ofChange fnPubPageSpec)) fnPubPageCard

/-- THE TIED CARD OF 'laws.FnSemverSorted'. -/
def fnSemverSortedCard : Claim7 := { stood := { row := fnSemverSortedRow, standIns := [], harness := (true, "e5b0bbcb236fcbafb581d38a545022d7731c99eb7075584c2602262349f9f536"), looks := true }, kinds := [], alts := [], laidByText := true, laidKinds := [.data, .data, .data, .sentinel, .sentinel, .sentinel, .data, .data, .data, .data, .data, .sentinel, .pinned], laidTests := true, laidLooks := .later }
def FnSemverSortedCardSaid : Prop := Claim7.holds Tryz.pinned (.plain (OpenSpec.ofChange fnSemverSortedSpec)) fnSemverSortedCard

/-- THE TIED CARD OF 'laws.FnSemverPage'. -/
def fnSemverPageCard : Claim7 := { stood := { row := fnSemverPageRow, standIns := [], harness := (true, "e5b0bbcb236fcbafb581d38a545022d7731c99eb7075584c2602262349f9f536"), looks := true }, kinds := [], alts := [], laidByText := true, laidKinds := [.data, .data, .sentinel, .sentinel, .sentinel, .data, .data, .data, .data, .data, .sentinel, .sentinel], laidTests := true, laidLooks := .later }
def FnSemverPageCardSaid : Prop := Claim7.holds Tryz.pinned (.plain (OpenSpec.ofChange fnSemverPageSpec)) fnSemverPageCard

/-- THE SECOND FORM's CARD OF 'laws.FnSemverPre'. -/
def fnSemverPreUptoCard : Claim7 := { stood := { row := fnSemverPreUptoRow, standIns := [], harness := (true, "e5b0bbcb236fcbafb581d38a545022d7731c99eb7075584c2602262349f9f536"), looks := true }, kinds := [], alts := [], laidByText := true, laidKinds := [.data, .data, .sentinel, .sentinel, .sentinel, .data, .data, .data, .data, .data, .sentinel], laidTests := true, laidLooks := .later }
def FnSemverPreUptoCardSaid : Prop := Claim7.holds Tryz.pinned (.plain (OpenSpec.upto fnSemverPreSpec)) fnSemverPreUptoCard

/-- THE SECOND FORM's CARD OF 'laws.FnPubPage'. -/
def fnPubPageUptoCard : Claim7 := { stood := { row := fnPubPageUptoRow, standIns := [], harness := (true, "e5b0bbcb236fcbafb581d38a545022d7731c99eb7075584c2602262349f9f536"), looks := true }, kinds := [], alts := [], laidByText := true, laidKinds := [.data, .data, .sentinel, .sentinel, .sentinel, .data, .data, .data, .data, .data, .sentinel], laidTests := true, laidLooks := .later }
def FnPubPageUptoCardSaid : Prop := Claim7.holds Tryz.pinned (.plain (OpenSpec.upto fnPubPageSpec)) fnPubPageUptoCard

/-- THE SECOND FORM's CARD OF 'laws.FnSemverSorted'. -/
def fnSemverSortedUptoCard : Claim7 := { stood := { row := fnSemverSortedUptoRow, standIns := [], harness := (true, "e5b0bbcb236fcbafb581d38a545022d7731c99eb7075584c2602262349f9f536"), looks := true }, kinds := [], alts := [], laidByText := true, laidKinds := [.data, .data, .data, .sentinel, .sentinel, .sentinel, .data, .data, .data, .data, .data, .sentinel, .pinned], laidTests := true, laidLooks := .later }
def FnSemverSortedUptoCardSaid : Prop := Claim7.holds Tryz.pinned (.plain (OpenSpec.upto fnSemverSortedSpec)) fnSemverSortedUptoCard

/-- THE SECOND FORM's CARD OF 'laws.FnSemverPage'. -/
def fnSemverPageUptoCard : Claim7 := { stood := { row := fnSemverPageUptoRow, standIns := [], harness := (true, "e5b0bbcb236fcbafb581d38a545022d7731c99eb7075584c2602262349f9f536"), looks := true }, kinds := [], alts := [], laidByText := true, laidKinds := [.data, .data, .sentinel, .sentinel, .sentinel, .data, .data, .data, .data, .data, .sentinel, .sentinel], laidTests := true, laidLooks := .later }
def FnSemverPageUptoCardSaid : Prop := Claim7.holds Tryz.pinned (.plain (OpenSpec.upto fnSemverPageSpec)) fnSemverPageUptoCard
end Rows
end Go.Proofs.YtdliagehkiihpaaGreatDoor
