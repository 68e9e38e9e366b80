/-
  DERIVED. GIVEN WITH THE SEED: THE CARDS: each row of YtcjpponhaigabaaGreatDoorRows.lean that lists a variable, with what it lists TIED to the program's text (the seventh form; the later family's looks); each row that meets fmt, with fmt's text TOLD by the authors' own Lean function (tested against real Go, not proved from fmt's source: count such statements apart). THE CARD IS WHAT COUNTS. Prove the row's statement (the work); the ties are given (YtcjpponhaigabaaGreatDoorTie.lean); close each card by the builder's one call (the guide's Derived/Test/ToyasCard.lean, 'card_holds'). Laid BY PROGRAM, IN A SANDBOX (cutbox-door.mjs). By AI agents, Wed Nov 11 2026. No macro, syntax, notation, axiom, sorry.
-/
import Derived.Test.YtcjpponhaigabaaGreatDoorRows
import GoSem.ClaimSeven
namespace Go.Proofs.YtcjpponhaigabaaGreatDoor
namespace Rows

/-- THE TIED CARD OF 'laws.FnHackageParse'. -/
def fnHackageParseCard : Claim7 := { stood := { row := fnHackageParseRow, standIns := [], harness := (true, "171ed5fd86d49ea2e0dd89bb41ed58bfcd9764fb674f5ca696ca22cd6b80804c"), looks := true }, kinds := [], alts := [], laidByText := true, laidKinds := [.data, .data, .data, .sentinel, .sentinel, .sentinel, .data, .data, .data, .data, .data, .sentinel, .pinned], laidTests := true, laidLooks := .later }
def FnHackageParseCardSaid : Prop := Claim7.holds Tryz.pinned (.plain (OpenSpec.ofChange fnHackageParseSpec)) fnHackageParseCard

/-- THE SECOND FORM's CARD OF 'laws.FnHackageParse'. -/
def fnHackageParseUptoCard : Claim7 := { stood := { row := fnHackageParseUptoRow, standIns := [], harness := (true, "171ed5fd86d49ea2e0dd89bb41ed58bfcd9764fb674f5ca696ca22cd6b80804c"), looks := true }, kinds := [], alts := [], laidByText := true, laidKinds := [.data, .data, .data, .sentinel, .sentinel, .sentinel, .data, .data, .data, .data, .data, .sentinel, .pinned], laidTests := true, laidLooks := .later }
def FnHackageParseUptoCardSaid : Prop := Claim7.holds Tryz.pinned (.plain (OpenSpec.upto fnHackageParseSpec)) fnHackageParseUptoCard
end Rows
end Go.Proofs.YtcjpponhaigabaaGreatDoor
