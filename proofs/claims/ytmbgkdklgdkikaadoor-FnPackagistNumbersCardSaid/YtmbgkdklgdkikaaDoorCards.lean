/-
  DERIVED. GIVEN WITH THE SEED: THE CARDS: each row of YtmbgkdklgdkikaaDoorRows.lean that lists a variable, with what it lists TIED to the program's text (the seventh form; the later family's looks); each row that meets fmt, with fmt's text TOLD by the authors' own Lean function (tested against real Go, not proved from fmt's source: count such statements apart). THE CARD IS WHAT COUNTS. Prove the row's statement (the work); the ties are given (YtmbgkdklgdkikaaDoorTie.lean); close each card by the builder's one call (the guide's Derived/Test/ToyasCard.lean, 'card_holds'). Laid BY PROGRAM, IN A SANDBOX (cutbox-door.mjs). By AI agents, Wed Nov 11 2026. No macro, syntax, notation, axiom, sorry.
-/
import Derived.Test.YtmbgkdklgdkikaaDoorRows
import GoSem.ClaimSeven
namespace Go.Proofs.YtmbgkdklgdkikaaDoor
namespace Rows

/-- THE TIED CARD OF 'laws.FnPackagistNumbers'. -/
def fnPackagistNumbersCard : Claim7 := { stood := { row := fnPackagistNumbersRow, standIns := [], harness := (true, "1a6cb57b7342fc26a63fb0dce997d803fd6dcc6eb5f3fc04fac98c8feefeb83d"), looks := true }, kinds := [], alts := [], laidByText := true, laidKinds := [.data, .data, .data, .sentinel, .sentinel, .sentinel, .sentinel, .sentinel, .sentinel], laidTests := true, laidLooks := .later }
def FnPackagistNumbersCardSaid : Prop := Claim7.holds Tryd.pinned (.plain (OpenSpec.ofChange fnPackagistNumbersSpec)) fnPackagistNumbersCard

/-- THE SECOND FORM's CARD OF 'laws.FnPackagistNumbers'. -/
def fnPackagistNumbersUptoCard : Claim7 := { stood := { row := fnPackagistNumbersUptoRow, standIns := [], harness := (true, "1a6cb57b7342fc26a63fb0dce997d803fd6dcc6eb5f3fc04fac98c8feefeb83d"), looks := true }, kinds := [], alts := [], laidByText := true, laidKinds := [.data, .data, .data, .sentinel, .sentinel, .sentinel, .sentinel, .sentinel, .sentinel], laidTests := true, laidLooks := .later }
def FnPackagistNumbersUptoCardSaid : Prop := Claim7.holds Tryd.pinned (.plain (OpenSpec.upto fnPackagistNumbersSpec)) fnPackagistNumbersUptoCard
end Rows
end Go.Proofs.YtmbgkdklgdkikaaDoor
