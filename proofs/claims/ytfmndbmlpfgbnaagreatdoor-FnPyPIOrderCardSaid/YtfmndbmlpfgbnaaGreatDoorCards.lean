/-
  DERIVED. GIVEN WITH THE SEED: THE CARDS: each row of YtfmndbmlpfgbnaaGreatDoorRows.lean that lists a variable, with what it lists TIED to the program's text (the seventh form; the later family's looks); each row that meets fmt, with fmt's text TOLD by the authors' own Lean function (tested against real Go, not proved from fmt's source: count such statements apart). THE CARD IS WHAT COUNTS. Prove the row's statement (the work); the ties are given (YtfmndbmlpfgbnaaGreatDoorTie.lean); close each card by the builder's one call (the guide's Derived/Test/ToyasCard.lean, 'card_holds'). Laid BY PROGRAM, IN A SANDBOX (cutbox-door.mjs). By AI agents, Wed Nov 11 2026. No macro, syntax, notation, axiom, sorry.
-/
import Derived.Test.YtfmndbmlpfgbnaaGreatDoorRows
import GoSem.ClaimSeven
namespace Go.Proofs.YtfmndbmlpfgbnaaGreatDoor
namespace Rows

/-- THE TIED CARD OF 'laws.FnPyPIOrder'. -/
def fnPyPIOrderCard : Claim7 := { stood := { row := fnPyPIOrderRow, standIns := [], harness := (true, "499356fcf931571500ffe09cf1519cf4473faf29fcd5829996f41e08718791e8"), looks := true }, kinds := [], alts := [], laidByText := true, laidKinds := [.sentinel, .sentinel, .sentinel, .sentinel], laidTests := true, laidLooks := .later }
def FnPyPIOrderCardSaid : Prop := Claim7.holds Tryz.pinned (.plain (OpenSpec.ofChange fnPyPIOrderSpec)) fnPyPIOrderCard

/-- THE SECOND FORM's CARD OF 'laws.FnPyPIOrder'. -/
def fnPyPIOrderUptoCard : Claim7 := { stood := { row := fnPyPIOrderUptoRow, standIns := [], harness := (true, "499356fcf931571500ffe09cf1519cf4473faf29fcd5829996f41e08718791e8"), looks := true }, kinds := [], alts := [], laidByText := true, laidKinds := [.sentinel, .sentinel, .sentinel, .sentinel], laidTests := true, laidLooks := .later }
def FnPyPIOrderUptoCardSaid : Prop := Claim7.holds Tryz.pinned (.plain (OpenSpec.upto fnPyPIOrderSpec)) fnPyPIOrderUptoCard
end Rows
end Go.Proofs.YtfmndbmlpfgbnaaGreatDoor
