/-
  DERIVED. GIVEN WITH THE SEED: THE CARDS: each row of YtjcebbcceohmkaaDoorRows.lean that lists a variable, with what it lists TIED to the program's text (the seventh form; the later family's looks); each row that meets fmt, with fmt's text TOLD by the authors' own Lean function (tested against real Go, not proved from fmt's source: count such statements apart). THE CARD IS WHAT COUNTS. Prove the row's statement (the work); the ties are given (YtjcebbcceohmkaaDoorTie.lean); close each card by the builder's one call (the guide's Derived/Test/ToyasCard.lean, 'card_holds'). Laid BY PROGRAM, IN A SANDBOX (cutbox-door.mjs). By AI agents, Wed Nov 11 2026. No macro, syntax, notation, axiom, sorry.
-/
import Derived.Test.YtjcebbcceohmkaaDoorRows
import GoSem.ClaimSeven
namespace Go.Proofs.YtjcebbcceohmkaaDoor
namespace Rows

/-- THE TIED CARD OF 'laws.FnLikeParse'. -/
def fnLikeParseCard : Claim7 := { stood := { row := fnLikeParseRow, standIns := [], harness := (true, "646df77ed4b3ff92d60e16086309442d6daac4076e5f1c015d5f018177ad4628"), looks := true }, kinds := [], alts := [], laidByText := true, laidKinds := [.data, .sentinel, .sentinel, .sentinel, .pinned], laidTests := true, laidLooks := .later }
def FnLikeParseCardSaid : Prop := Claim7.holds Tryd.pinned (.plain (OpenSpec.ofChange fnLikeParseSpec)) fnLikeParseCard

/-- THE TIED CARD OF 'laws.FnCRAN'. -/
def fnCRANCard : Claim7 := { stood := { row := fnCRANRow, standIns := [], harness := (true, "646df77ed4b3ff92d60e16086309442d6daac4076e5f1c015d5f018177ad4628"), looks := true }, kinds := [], alts := [], laidByText := true, laidKinds := [.sentinel, .sentinel, .sentinel, .sentinel, .sentinel], laidTests := true, laidLooks := .later }
def FnCRANCardSaid : Prop := Claim7.holds Tryd.pinned (.plain (OpenSpec.ofChange fnCRANSpec)) fnCRANCard

/-- THE SECOND FORM's CARD OF 'laws.FnLikeParse'. -/
def fnLikeParseUptoCard : Claim7 := { stood := { row := fnLikeParseUptoRow, standIns := [], harness := (true, "646df77ed4b3ff92d60e16086309442d6daac4076e5f1c015d5f018177ad4628"), looks := true }, kinds := [], alts := [], laidByText := true, laidKinds := [.data, .sentinel, .sentinel, .sentinel, .pinned], laidTests := true, laidLooks := .later }
def FnLikeParseUptoCardSaid : Prop := Claim7.holds Tryd.pinned (.plain (OpenSpec.upto fnLikeParseSpec)) fnLikeParseUptoCard

/-- THE SECOND FORM's CARD OF 'laws.FnCRAN'. -/
def fnCRANUptoCard : Claim7 := { stood := { row := fnCRANUptoRow, standIns := [], harness := (true, "646df77ed4b3ff92d60e16086309442d6daac4076e5f1c015d5f018177ad4628"), looks := true }, kinds := [], alts := [], laidByText := true, laidKinds := [.sentinel, .sentinel, .sentinel, .sentinel, .sentinel], laidTests := true, laidLooks := .later }
def FnCRANUptoCardSaid : Prop := Claim7.holds Tryd.pinned (.plain (OpenSpec.upto fnCRANSpec)) fnCRANUptoCard
end Rows
end Go.Proofs.YtjcebbcceohmkaaDoor
