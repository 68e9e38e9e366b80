/-
  DERIVED. GIVEN WITH THE SEED: THE CARDS: each row of YtnbpoplomdocjaaGreatDoorRows.lean that lists a variable, with what it lists TIED to the program's text (the seventh form; the later family's looks); each row that meets fmt, with fmt's text TOLD by the authors' own Lean function (tested against real Go, not proved from fmt's source: count such statements apart). THE CARD IS WHAT COUNTS. Prove the row's statement (the work); the ties are given (YtnbpoplomdocjaaGreatDoorTie.lean); close each card by the builder's one call (the guide's Derived/Test/ToyasCard.lean, 'card_holds'). Laid BY PROGRAM, IN A SANDBOX (cutbox-door.mjs). By AI agents, Wed Nov 11 2026. No macro, syntax, notation, axiom, sorry.
-/
import Derived.Test.YtnbpoplomdocjaaGreatDoorRows
import GoSem.ClaimSeven
namespace Go.Proofs.YtnbpoplomdocjaaGreatDoor
namespace Rows

/-- THE TIED CARD OF 'laws.FnMixed'. -/
def fnMixedCard : Claim7 := { stood := { row := fnMixedRow, standIns := [], harness := (true, "c45102d30457ad988c38086517644fd4406cc246a1e3d89bc902267e1c421cac"), looks := true }, kinds := [], alts := [], laidByText := true, laidKinds := [.data, .sentinel, .listed, .data, .sentinel, .sentinel, .sentinel, .sentinel, .pinned], laidTests := true, laidLooks := .later }
def FnMixedCardSaid : Prop := Claim7.holds Tryz.pinned (.plain (OpenSpec.ofChange fnMixedSpec)) fnMixedCard

/-- THE SECOND FORM's CARD OF 'laws.FnMixed'. -/
def fnMixedUptoCard : Claim7 := { stood := { row := fnMixedUptoRow, standIns := [], harness := (true, "c45102d30457ad988c38086517644fd4406cc246a1e3d89bc902267e1c421cac"), looks := true }, kinds := [], alts := [], laidByText := true, laidKinds := [.data, .sentinel, .listed, .data, .sentinel, .sentinel, .sentinel, .sentinel, .pinned], laidTests := true, laidLooks := .later }
def FnMixedUptoCardSaid : Prop := Claim7.holds Tryz.pinned (.plain (OpenSpec.upto fnMixedSpec)) fnMixedUptoCard
end Rows
end Go.Proofs.YtnbpoplomdocjaaGreatDoor
