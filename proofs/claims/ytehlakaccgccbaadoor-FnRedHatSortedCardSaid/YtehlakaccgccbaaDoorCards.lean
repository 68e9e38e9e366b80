/-
  DERIVED. GIVEN WITH THE SEED: THE CARDS: each row of YtehlakaccgccbaaDoorRows.lean that lists a variable, with what it lists TIED to the program's text (the seventh form; the later family's looks); each row that meets fmt, with fmt's text TOLD by the authors' own Lean function (tested against real Go, not proved from fmt's source: count such statements apart). THE CARD IS WHAT COUNTS. Prove the row's statement (the work); the ties are given (YtehlakaccgccbaaDoorTie.lean); close each card by the builder's one call (the guide's Derived/Test/ToyasCard.lean, 'card_holds'). Laid BY PROGRAM, IN A SANDBOX (cutbox-door.mjs). By AI agents, Wed Nov 11 2026. No macro, syntax, notation, axiom, sorry.
-/
import Derived.Test.YtehlakaccgccbaaDoorRows
import GoSem.ClaimSeven
namespace Go.Proofs.YtehlakaccgccbaaDoor
namespace Rows

/-- THE TIED CARD OF 'laws.FnRedHatSorted'. -/
def fnRedHatSortedCard : Claim7 := { stood := { row := fnRedHatSortedRow, standIns := [], harness := (true, "756cc3ca92bd2852e744d6eadd8829d3528f622eee63243a85176f74812eb232"), looks := true }, kinds := [], alts := [], laidByText := true, laidKinds := [.sentinel], laidTests := true, laidLooks := .later }
def FnRedHatSortedCardSaid : Prop := Claim7.holds Tryd.pinned (.plain (OpenSpec.ofChange fnRedHatSortedSpec)) fnRedHatSortedCard

/-- THE SECOND FORM's CARD OF 'laws.FnRedHatSorted'. -/
def fnRedHatSortedUptoCard : Claim7 := { stood := { row := fnRedHatSortedUptoRow, standIns := [], harness := (true, "756cc3ca92bd2852e744d6eadd8829d3528f622eee63243a85176f74812eb232"), looks := true }, kinds := [], alts := [], laidByText := true, laidKinds := [.sentinel], laidTests := true, laidLooks := .later }
def FnRedHatSortedUptoCardSaid : Prop := Claim7.holds Tryd.pinned (.plain (OpenSpec.upto fnRedHatSortedSpec)) fnRedHatSortedUptoCard
end Rows
end Go.Proofs.YtehlakaccgccbaaDoor
