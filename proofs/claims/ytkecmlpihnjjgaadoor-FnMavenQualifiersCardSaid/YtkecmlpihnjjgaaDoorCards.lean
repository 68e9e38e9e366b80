/-
  DERIVED. GIVEN WITH THE SEED: THE CARDS: each row of YtkecmlpihnjjgaaDoorRows.lean that lists a variable, with what it lists TIED to the program's text (the seventh form; the later family's looks); each row that meets fmt, with fmt's text TOLD by the authors' own Lean function (tested against real Go, not proved from fmt's source: count such statements apart). THE CARD IS WHAT COUNTS. Prove the row's statement (the work); the ties are given (YtkecmlpihnjjgaaDoorTie.lean); close each card by the builder's one call (the guide's Derived/Test/ToyasCard.lean, 'card_holds'). Laid BY PROGRAM, IN A SANDBOX (cutbox-door.mjs). By AI agents, Wed Nov 11 2026. No macro, syntax, notation, axiom, sorry.
-/
import Derived.Test.YtkecmlpihnjjgaaDoorRows
import GoSem.ClaimSeven
namespace Go.Proofs.YtkecmlpihnjjgaaDoor
namespace Rows

/-- THE TIED CARD OF 'laws.FnMavenSame'. -/
def fnMavenSameCard : Claim7 := { stood := { row := fnMavenSameRow, standIns := [], harness := (true, "000bb5ebdaef3d50b636a1c02ab9fe464dce488f54c6e83f0e4bb41e67ded3d4"), looks := true }, kinds := [], alts := [], laidByText := true, laidKinds := [.sentinel, .sentinel, .sentinel, .sentinel, .data], laidTests := true, laidLooks := .later }
def FnMavenSameCardSaid : Prop := Claim7.holds Tryd.pinned (.plain (OpenSpec.ofChange fnMavenSameSpec)) fnMavenSameCard

/-- THE TIED CARD OF 'laws.FnMavenQualifiers'. -/
def fnMavenQualifiersCard : Claim7 := { stood := { row := fnMavenQualifiersRow, standIns := [], harness := (true, "000bb5ebdaef3d50b636a1c02ab9fe464dce488f54c6e83f0e4bb41e67ded3d4"), looks := true }, kinds := [], alts := [], laidByText := true, laidKinds := [.sentinel, .sentinel, .sentinel, .sentinel, .data], laidTests := true, laidLooks := .later }
def FnMavenQualifiersCardSaid : Prop := Claim7.holds Tryd.pinned (.plain (OpenSpec.ofChange fnMavenQualifiersSpec)) fnMavenQualifiersCard

/-- THE SECOND FORM's CARD OF 'laws.FnMavenSame'. -/
def fnMavenSameUptoCard : Claim7 := { stood := { row := fnMavenSameUptoRow, standIns := [], harness := (true, "000bb5ebdaef3d50b636a1c02ab9fe464dce488f54c6e83f0e4bb41e67ded3d4"), looks := true }, kinds := [], alts := [], laidByText := true, laidKinds := [.sentinel, .sentinel, .sentinel, .sentinel, .data], laidTests := true, laidLooks := .later }
def FnMavenSameUptoCardSaid : Prop := Claim7.holds Tryd.pinned (.plain (OpenSpec.upto fnMavenSameSpec)) fnMavenSameUptoCard

/-- THE SECOND FORM's CARD OF 'laws.FnMavenQualifiers'. -/
def fnMavenQualifiersUptoCard : Claim7 := { stood := { row := fnMavenQualifiersUptoRow, standIns := [], harness := (true, "000bb5ebdaef3d50b636a1c02ab9fe464dce488f54c6e83f0e4bb41e67ded3d4"), looks := true }, kinds := [], alts := [], laidByText := true, laidKinds := [.sentinel, .sentinel, .sentinel, .sentinel, .data], laidTests := true, laidLooks := .later }
def FnMavenQualifiersUptoCardSaid : Prop := Claim7.holds Tryd.pinned (.plain (OpenSpec.upto fnMavenQualifiersSpec)) fnMavenQualifiersUptoCard
end Rows
end Go.Proofs.YtkecmlpihnjjgaaDoor
