/-
  DERIVED. GIVEN WITH THE SEED: THE CARDS: each row of YtdpeadckejhloaaGreatDoorRows.lean that lists a variable, with what it lists TIED to the program's text (the seventh form; the later family's looks); each row that meets fmt, with fmt's text TOLD by the authors' own Lean function (tested against real Go, not proved from fmt's source: count such statements apart). THE CARD IS WHAT COUNTS. Prove the row's statement (the work); the ties are given (YtdpeadckejhloaaGreatDoorTie.lean); close each card by the builder's one call (the guide's Derived/Test/ToyasCard.lean, 'card_holds'). Laid BY PROGRAM, IN A SANDBOX (cutbox-door.mjs). By AI agents, Wed Nov 11 2026. No macro, syntax, notation, axiom, sorry.
-/
import Derived.Test.YtdpeadckejhloaaGreatDoorRows
import GoSem.ClaimSeven
namespace Go.Proofs.YtdpeadckejhloaaGreatDoor
namespace Rows

/-- THE TIED CARD OF 'laws.FnNuGet'. -/
def fnNuGetCard : Claim7 := { stood := { row := fnNuGetRow, standIns := [], harness := (true, "f0fcfbc88a80db8100481f8308d3a7ee111b0d825900e10253b1d5a988649adf"), looks := true }, kinds := [], alts := [], laidByText := true, laidKinds := [.data, .sentinel, .sentinel, .sentinel, .sentinel, .sentinel, .pinned, .pinned], laidTests := true, laidLooks := .later }
def FnNuGetCardSaid : Prop := Claim7.holds Tryz.pinned (.plain (OpenSpec.ofChange fnNuGetSpec)) fnNuGetCard

/-- THE TIED CARD OF 'laws.FnHackage'. -/
def fnHackageCard : Claim7 := { stood := { row := fnHackageRow, standIns := [], harness := (true, "f0fcfbc88a80db8100481f8308d3a7ee111b0d825900e10253b1d5a988649adf"), looks := true }, kinds := [], alts := [], laidByText := true, laidKinds := [.data, .sentinel, .sentinel, .sentinel, .sentinel, .sentinel, .pinned, .pinned], laidTests := true, laidLooks := .later }
def FnHackageCardSaid : Prop := Claim7.holds Tryz.pinned (.plain (OpenSpec.ofChange fnHackageSpec)) fnHackageCard

/-- THE SECOND FORM's CARD OF 'laws.FnNuGet'. -/
def fnNuGetUptoCard : Claim7 := { stood := { row := fnNuGetUptoRow, standIns := [], harness := (true, "f0fcfbc88a80db8100481f8308d3a7ee111b0d825900e10253b1d5a988649adf"), looks := true }, kinds := [], alts := [], laidByText := true, laidKinds := [.data, .sentinel, .sentinel, .sentinel, .sentinel, .sentinel, .pinned, .pinned], laidTests := true, laidLooks := .later }
def FnNuGetUptoCardSaid : Prop := Claim7.holds Tryz.pinned (.plain (OpenSpec.upto fnNuGetSpec)) fnNuGetUptoCard

/-- THE SECOND FORM's CARD OF 'laws.FnHackage'. -/
def fnHackageUptoCard : Claim7 := { stood := { row := fnHackageUptoRow, standIns := [], harness := (true, "f0fcfbc88a80db8100481f8308d3a7ee111b0d825900e10253b1d5a988649adf"), looks := true }, kinds := [], alts := [], laidByText := true, laidKinds := [.data, .sentinel, .sentinel, .sentinel, .sentinel, .sentinel, .pinned, .pinned], laidTests := true, laidLooks := .later }
def FnHackageUptoCardSaid : Prop := Claim7.holds Tryz.pinned (.plain (OpenSpec.upto fnHackageSpec)) fnHackageUptoCard
end Rows
end Go.Proofs.YtdpeadckejhloaaGreatDoor
