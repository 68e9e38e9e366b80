/-
  DERIVED. GIVEN WITH THE SEED: THE CARDS: each row of YtojabknjniihmabDoorRows.lean that lists a variable, with what it lists TIED to the program's text (the seventh form; the later family's looks); each row that meets fmt, with fmt's text TOLD by the authors' own Lean function (tested against real Go, not proved from fmt's source: count such statements apart). THE CARD IS WHAT COUNTS. Prove the row's statement (the work); the ties are given (YtojabknjniihmabDoorTie.lean); close each card by the builder's one call (the guide's Derived/Test/ToyasCard.lean, 'card_holds'). Laid BY PROGRAM, IN A SANDBOX (cutbox-door.mjs). By AI agents, Wed Nov 11 2026. No macro, syntax, notation, axiom, sorry.
-/
import Derived.Test.YtojabknjniihmabDoorRows
import GoSem.ClaimSeven
namespace Go.Proofs.YtojabknjniihmabDoor
namespace Rows

/-- THE TIED CARD OF 'laws.FnRedHatSorted'. -/
def fnRedHatSortedCard : Claim7 := { stood := { row := fnRedHatSortedRow, standIns := [], harness := (true, "c767f243dc1faacc68684bfc316fed23c3dc519093ecbaef64c450c7f03c78a4"), looks := true }, kinds := [], alts := [], laidByText := true, laidKinds := [.sentinel], laidTests := true, laidLooks := .later }
def FnRedHatSortedCardSaid : Prop := Claim7.holds Tryd.pinned (.plain (OpenSpec.ofChange fnRedHatSortedSpec)) fnRedHatSortedCard

/-- THE TIED CARD OF 'laws.FnRedHatPartsOrder'. -/
def fnRedHatPartsOrderCard : Claim7 := { stood := { row := fnRedHatPartsOrderRow, standIns := [], harness := (true, "c767f243dc1faacc68684bfc316fed23c3dc519093ecbaef64c450c7f03c78a4"), looks := true }, kinds := [], alts := [], laidByText := true, laidKinds := [.sentinel], laidTests := true, laidLooks := .later }
def FnRedHatPartsOrderCardSaid : Prop := Claim7.holds Tryd.pinned (.plain (OpenSpec.ofChange fnRedHatPartsOrderSpec)) fnRedHatPartsOrderCard

/-- THE TIED CARD OF 'laws.FnRedHatJoined'. -/
def fnRedHatJoinedCard : Claim7 := { stood := { row := fnRedHatJoinedRow, standIns := [], harness := (true, "c767f243dc1faacc68684bfc316fed23c3dc519093ecbaef64c450c7f03c78a4"), looks := true }, kinds := [], alts := [], laidByText := true, laidKinds := [.sentinel], laidTests := true, laidLooks := .later }
def FnRedHatJoinedCardSaid : Prop := Claim7.holds Tryd.pinned (.plain (OpenSpec.ofChange fnRedHatJoinedSpec)) fnRedHatJoinedCard

/-- THE SECOND FORM's CARD OF 'laws.FnRedHatSorted'. -/
def fnRedHatSortedUptoCard : Claim7 := { stood := { row := fnRedHatSortedUptoRow, standIns := [], harness := (true, "c767f243dc1faacc68684bfc316fed23c3dc519093ecbaef64c450c7f03c78a4"), looks := true }, kinds := [], alts := [], laidByText := true, laidKinds := [.sentinel], laidTests := true, laidLooks := .later }
def FnRedHatSortedUptoCardSaid : Prop := Claim7.holds Tryd.pinned (.plain (OpenSpec.upto fnRedHatSortedSpec)) fnRedHatSortedUptoCard

/-- THE SECOND FORM's CARD OF 'laws.FnRedHatPartsOrder'. -/
def fnRedHatPartsOrderUptoCard : Claim7 := { stood := { row := fnRedHatPartsOrderUptoRow, standIns := [], harness := (true, "c767f243dc1faacc68684bfc316fed23c3dc519093ecbaef64c450c7f03c78a4"), looks := true }, kinds := [], alts := [], laidByText := true, laidKinds := [.sentinel], laidTests := true, laidLooks := .later }
def FnRedHatPartsOrderUptoCardSaid : Prop := Claim7.holds Tryd.pinned (.plain (OpenSpec.upto fnRedHatPartsOrderSpec)) fnRedHatPartsOrderUptoCard

/-- THE SECOND FORM's CARD OF 'laws.FnRedHatJoined'. -/
def fnRedHatJoinedUptoCard : Claim7 := { stood := { row := fnRedHatJoinedUptoRow, standIns := [], harness := (true, "c767f243dc1faacc68684bfc316fed23c3dc519093ecbaef64c450c7f03c78a4"), looks := true }, kinds := [], alts := [], laidByText := true, laidKinds := [.sentinel], laidTests := true, laidLooks := .later }
def FnRedHatJoinedUptoCardSaid : Prop := Claim7.holds Tryd.pinned (.plain (OpenSpec.upto fnRedHatJoinedSpec)) fnRedHatJoinedUptoCard
end Rows
end Go.Proofs.YtojabknjniihmabDoor
