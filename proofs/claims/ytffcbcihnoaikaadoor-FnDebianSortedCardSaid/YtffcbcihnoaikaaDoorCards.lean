/-
  DERIVED. GIVEN WITH THE SEED: THE CARDS: each row of YtffcbcihnoaikaaDoorRows.lean that lists a variable, with what it lists TIED to the program's text (the seventh form; the later family's looks); each row that meets fmt, with fmt's text TOLD by the authors' own Lean function (tested against real Go, not proved from fmt's source: count such statements apart). THE CARD IS WHAT COUNTS. Prove the row's statement (the work); the ties are given (YtffcbcihnoaikaaDoorTie.lean); close each card by the builder's one call (the guide's Derived/Test/ToyasCard.lean, 'card_holds'). Laid BY PROGRAM, IN A SANDBOX (cutbox-door.mjs). By AI agents, Wed Nov 11 2026. No macro, syntax, notation, axiom, sorry.
-/
import Derived.Test.YtffcbcihnoaikaaDoorRows
import GoSem.ClaimSeven
namespace Go.Proofs.YtffcbcihnoaikaaDoor
namespace Rows

/-- THE TIED CARD OF 'laws.FnDebianParse'. -/
def fnDebianParseCard : Claim7 := { stood := { row := fnDebianParseRow, standIns := [], harness := (true, "77156315540b022b858134fa2ae73364a24ba07c096a836cacab2bbb1daf5d3d"), looks := true }, kinds := [], alts := [], laidByText := true, laidKinds := [.data, .sentinel, .listed, .data, .sentinel, .sentinel, .sentinel, .pinned], laidTests := true, laidLooks := .later }
def FnDebianParseCardSaid : Prop := Claim7.holds Tryd.pinned (.plain (OpenSpec.ofChange fnDebianParseSpec)) fnDebianParseCard

/-- THE TIED CARD OF 'laws.FnDebianBehind'. -/
def fnDebianBehindCard : Claim7 := { stood := { row := fnDebianBehindRow, standIns := [], harness := (true, "77156315540b022b858134fa2ae73364a24ba07c096a836cacab2bbb1daf5d3d"), looks := true }, kinds := [], alts := [], laidByText := true, laidKinds := [.data, .sentinel, .listed, .data, .sentinel, .sentinel, .sentinel, .sentinel, .pinned], laidTests := true, laidLooks := .later }
def FnDebianBehindCardSaid : Prop := Claim7.holds Tryd.pinned (.plain (OpenSpec.ofChange fnDebianBehindSpec)) fnDebianBehindCard

/-- THE TIED CARD OF 'laws.FnDebianSorted'. -/
def fnDebianSortedCard : Claim7 := { stood := { row := fnDebianSortedRow, standIns := [], harness := (true, "77156315540b022b858134fa2ae73364a24ba07c096a836cacab2bbb1daf5d3d"), looks := true }, kinds := [], alts := [], laidByText := true, laidKinds := [.data, .sentinel, .listed, .data, .sentinel, .sentinel, .sentinel, .sentinel, .pinned], laidTests := true, laidLooks := .later }
def FnDebianSortedCardSaid : Prop := Claim7.holds Tryd.pinned (.plain (OpenSpec.ofChange fnDebianSortedSpec)) fnDebianSortedCard

/-- THE TIED CARD OF 'laws.FnDebianZeros'. -/
def fnDebianZerosCard : Claim7 := { stood := { row := fnDebianZerosRow, standIns := [], harness := (true, "77156315540b022b858134fa2ae73364a24ba07c096a836cacab2bbb1daf5d3d"), looks := true }, kinds := [], alts := [], laidByText := true, laidKinds := [.data, .sentinel, .listed, .data, .sentinel, .sentinel, .sentinel, .sentinel, .pinned], laidTests := true, laidLooks := .later }
def FnDebianZerosCardSaid : Prop := Claim7.holds Tryd.pinned (.plain (OpenSpec.ofChange fnDebianZerosSpec)) fnDebianZerosCard

/-- THE SECOND FORM's CARD OF 'laws.FnDebianParse'. -/
def fnDebianParseUptoCard : Claim7 := { stood := { row := fnDebianParseUptoRow, standIns := [], harness := (true, "77156315540b022b858134fa2ae73364a24ba07c096a836cacab2bbb1daf5d3d"), looks := true }, kinds := [], alts := [], laidByText := true, laidKinds := [.data, .sentinel, .listed, .data, .sentinel, .sentinel, .sentinel, .pinned], laidTests := true, laidLooks := .later }
def FnDebianParseUptoCardSaid : Prop := Claim7.holds Tryd.pinned (.plain (OpenSpec.upto fnDebianParseSpec)) fnDebianParseUptoCard

/-- THE SECOND FORM's CARD OF 'laws.FnDebianBehind'. -/
def fnDebianBehindUptoCard : Claim7 := { stood := { row := fnDebianBehindUptoRow, standIns := [], harness := (true, "77156315540b022b858134fa2ae73364a24ba07c096a836cacab2bbb1daf5d3d"), looks := true }, kinds := [], alts := [], laidByText := true, laidKinds := [.data, .sentinel, .listed, .data, .sentinel, .sentinel, .sentinel, .sentinel, .pinned], laidTests := true, laidLooks := .later }
def FnDebianBehindUptoCardSaid : Prop := Claim7.holds Tryd.pinned (.plain (OpenSpec.upto fnDebianBehindSpec)) fnDebianBehindUptoCard

/-- THE SECOND FORM's CARD OF 'laws.FnDebianSorted'. -/
def fnDebianSortedUptoCard : Claim7 := { stood := { row := fnDebianSortedUptoRow, standIns := [], harness := (true, "77156315540b022b858134fa2ae73364a24ba07c096a836cacab2bbb1daf5d3d"), looks := true }, kinds := [], alts := [], laidByText := true, laidKinds := [.data, .sentinel, .listed, .data, .sentinel, .sentinel, .sentinel, .sentinel, .pinned], laidTests := true, laidLooks := .later }
def FnDebianSortedUptoCardSaid : Prop := Claim7.holds Tryd.pinned (.plain (OpenSpec.upto fnDebianSortedSpec)) fnDebianSortedUptoCard

/-- THE SECOND FORM's CARD OF 'laws.FnDebianZeros'. -/
def fnDebianZerosUptoCard : Claim7 := { stood := { row := fnDebianZerosUptoRow, standIns := [], harness := (true, "77156315540b022b858134fa2ae73364a24ba07c096a836cacab2bbb1daf5d3d"), looks := true }, kinds := [], alts := [], laidByText := true, laidKinds := [.data, .sentinel, .listed, .data, .sentinel, .sentinel, .sentinel, .sentinel, .pinned], laidTests := true, laidLooks := .later }
def FnDebianZerosUptoCardSaid : Prop := Claim7.holds Tryd.pinned (.plain (OpenSpec.upto fnDebianZerosSpec)) fnDebianZerosUptoCard
end Rows
end Go.Proofs.YtffcbcihnoaikaaDoor
