/-
  DERIVED. GIVEN WITH THE SEED: THE CARDS: each row of YtchnlfkdgajodaaDoorRows.lean that lists a variable, with what it lists TIED to the program's text (the seventh form; the later family's looks); each row that meets fmt, with fmt's text TOLD by the authors' own Lean function (tested against real Go, not proved from fmt's source: count such statements apart). THE CARD IS WHAT COUNTS. Prove the row's statement (the work); the ties are given (YtchnlfkdgajodaaDoorTie.lean); close each card by the builder's one call (the guide's Derived/Test/ToyasCard.lean, 'card_holds'). Laid BY PROGRAM, IN A SANDBOX (cutbox-door.mjs). By AI agents, Wed Nov 11 2026. No macro, syntax, notation, axiom, sorry.
-/
import Derived.Test.YtchnlfkdgajodaaDoorRows
import GoSem.ClaimSeven
namespace Go.Proofs.YtchnlfkdgajodaaDoor
namespace Rows

/-- THE TIED CARD OF 'laws.FnDebianParts'. -/
def fnDebianPartsCard : Claim7 := { stood := { row := fnDebianPartsRow, standIns := [], harness := (true, "a69b2e1a7afd86d853ac3727ef77f4465f250d2c5c0b265f96602deed6b4166d"), looks := true }, kinds := [], alts := [], laidByText := true, laidKinds := [.sentinel, .sentinel, .sentinel, .sentinel], laidTests := true, laidLooks := .later }
def FnDebianPartsCardSaid : Prop := Claim7.holds Tryd.pinned (.plain (OpenSpec.ofChange fnDebianPartsSpec)) fnDebianPartsCard

/-- THE SECOND FORM's CARD OF 'laws.FnDebianParts'. -/
def fnDebianPartsUptoCard : Claim7 := { stood := { row := fnDebianPartsUptoRow, standIns := [], harness := (true, "a69b2e1a7afd86d853ac3727ef77f4465f250d2c5c0b265f96602deed6b4166d"), looks := true }, kinds := [], alts := [], laidByText := true, laidKinds := [.sentinel, .sentinel, .sentinel, .sentinel], laidTests := true, laidLooks := .later }
def FnDebianPartsUptoCardSaid : Prop := Claim7.holds Tryd.pinned (.plain (OpenSpec.upto fnDebianPartsSpec)) fnDebianPartsUptoCard
end Rows
end Go.Proofs.YtchnlfkdgajodaaDoor
