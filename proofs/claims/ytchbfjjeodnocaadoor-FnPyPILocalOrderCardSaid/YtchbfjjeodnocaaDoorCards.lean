/-
  DERIVED. GIVEN WITH THE SEED: THE CARDS: each row of YtchbfjjeodnocaaDoorRows.lean that lists a variable, with what it lists TIED to the program's text (the seventh form; the later family's looks); each row that meets fmt, with fmt's text TOLD by the authors' own Lean function (tested against real Go, not proved from fmt's source: count such statements apart). THE CARD IS WHAT COUNTS. Prove the row's statement (the work); the ties are given (YtchbfjjeodnocaaDoorTie.lean); close each card by the builder's one call (the guide's Derived/Test/ToyasCard.lean, 'card_holds'). Laid BY PROGRAM, IN A SANDBOX (cutbox-door.mjs). By AI agents, Wed Nov 11 2026. No macro, syntax, notation, axiom, sorry.
-/
import Derived.Test.YtchbfjjeodnocaaDoorRows
import GoSem.ClaimSeven
namespace Go.Proofs.YtchbfjjeodnocaaDoor
namespace Rows

/-- THE TIED CARD OF 'laws.FnToken'. -/
def fnTokenCard : Claim7 := { stood := { row := fnTokenRow, standIns := [], harness := (true, "3698927a9c9adfef7ad2e45ef17ea59e794d8157411c00ba2dfd2826c57988b9"), looks := true }, kinds := [], alts := [], laidByText := true, laidKinds := [.sentinel, .sentinel, .sentinel, .sentinel], laidTests := true, laidLooks := .later }
def FnTokenCardSaid : Prop := Claim7.holds Tryd.pinned (.plain (OpenSpec.ofChange fnTokenSpec)) fnTokenCard

/-- THE TIED CARD OF 'laws.FnMavenSame'. -/
def fnMavenSameCard : Claim7 := { stood := { row := fnMavenSameRow, standIns := [], harness := (true, "3698927a9c9adfef7ad2e45ef17ea59e794d8157411c00ba2dfd2826c57988b9"), looks := true }, kinds := [], alts := [], laidByText := true, laidKinds := [.sentinel, .sentinel, .sentinel, .sentinel, .data], laidTests := true, laidLooks := .later }
def FnMavenSameCardSaid : Prop := Claim7.holds Tryd.pinned (.plain (OpenSpec.ofChange fnMavenSameSpec)) fnMavenSameCard

/-- THE TIED CARD OF 'laws.FnMavenQualifiers'. -/
def fnMavenQualifiersCard : Claim7 := { stood := { row := fnMavenQualifiersRow, standIns := [], harness := (true, "3698927a9c9adfef7ad2e45ef17ea59e794d8157411c00ba2dfd2826c57988b9"), looks := true }, kinds := [], alts := [], laidByText := true, laidKinds := [.sentinel, .sentinel, .sentinel, .sentinel, .data], laidTests := true, laidLooks := .later }
def FnMavenQualifiersCardSaid : Prop := Claim7.holds Tryd.pinned (.plain (OpenSpec.ofChange fnMavenQualifiersSpec)) fnMavenQualifiersCard

/-- THE TIED CARD OF 'laws.FnPyPILocal'. -/
def fnPyPILocalCard : Claim7 := { stood := { row := fnPyPILocalRow, standIns := [], harness := (true, "3698927a9c9adfef7ad2e45ef17ea59e794d8157411c00ba2dfd2826c57988b9"), looks := true }, kinds := [], alts := [], laidByText := true, laidKinds := [.sentinel, .sentinel, .sentinel, .sentinel], laidTests := true, laidLooks := .later }
def FnPyPILocalCardSaid : Prop := Claim7.holds Tryd.pinned (.plain (OpenSpec.ofChange fnPyPILocalSpec)) fnPyPILocalCard

/-- THE TIED CARD OF 'laws.FnPyPILocalOrder'. -/
def fnPyPILocalOrderCard : Claim7 := { stood := { row := fnPyPILocalOrderRow, standIns := [], harness := (true, "3698927a9c9adfef7ad2e45ef17ea59e794d8157411c00ba2dfd2826c57988b9"), looks := true }, kinds := [], alts := [], laidByText := true, laidKinds := [.sentinel, .sentinel, .sentinel, .sentinel], laidTests := true, laidLooks := .later }
def FnPyPILocalOrderCardSaid : Prop := Claim7.holds Tryd.pinned (.plain (OpenSpec.ofChange fnPyPILocalOrderSpec)) fnPyPILocalOrderCard

/-- THE TIED CARD OF 'laws.FnLetterVersion'. -/
def fnLetterVersionCard : Claim7 := { stood := { row := fnLetterVersionRow, standIns := [], harness := (true, "3698927a9c9adfef7ad2e45ef17ea59e794d8157411c00ba2dfd2826c57988b9"), looks := true }, kinds := [], alts := [], laidByText := true, laidKinds := [.data, .sentinel, .sentinel, .sentinel, .sentinel, .pinned, .pinned], laidTests := true, laidLooks := .later }
def FnLetterVersionCardSaid : Prop := Claim7.holds Tryd.pinned (.plain (OpenSpec.ofChange fnLetterVersionSpec)) fnLetterVersionCard

/-- THE TIED CARD OF 'laws.FnCRAN'. -/
def fnCRANCard : Claim7 := { stood := { row := fnCRANRow, standIns := [], harness := (true, "3698927a9c9adfef7ad2e45ef17ea59e794d8157411c00ba2dfd2826c57988b9"), looks := true }, kinds := [], alts := [], laidByText := true, laidKinds := [.sentinel, .sentinel, .sentinel, .sentinel, .sentinel], laidTests := true, laidLooks := .later }
def FnCRANCardSaid : Prop := Claim7.holds Tryd.pinned (.plain (OpenSpec.ofChange fnCRANSpec)) fnCRANCard

/-- THE TIED CARD OF 'laws.FnCRANMarks'. -/
def fnCRANMarksCard : Claim7 := { stood := { row := fnCRANMarksRow, standIns := [], harness := (true, "3698927a9c9adfef7ad2e45ef17ea59e794d8157411c00ba2dfd2826c57988b9"), looks := true }, kinds := [], alts := [], laidByText := true, laidKinds := [.sentinel, .sentinel, .sentinel, .sentinel, .sentinel], laidTests := true, laidLooks := .later }
def FnCRANMarksCardSaid : Prop := Claim7.holds Tryd.pinned (.plain (OpenSpec.ofChange fnCRANMarksSpec)) fnCRANMarksCard

/-- THE TIED CARD OF 'laws.FnCRANZeros'. -/
def fnCRANZerosCard : Claim7 := { stood := { row := fnCRANZerosRow, standIns := [], harness := (true, "3698927a9c9adfef7ad2e45ef17ea59e794d8157411c00ba2dfd2826c57988b9"), looks := true }, kinds := [], alts := [], laidByText := true, laidKinds := [.sentinel, .sentinel, .sentinel, .sentinel, .sentinel], laidTests := true, laidLooks := .later }
def FnCRANZerosCardSaid : Prop := Claim7.holds Tryd.pinned (.plain (OpenSpec.ofChange fnCRANZerosSpec)) fnCRANZerosCard

/-- THE TIED CARD OF 'laws.FnPackagistNumbers'. -/
def fnPackagistNumbersCard : Claim7 := { stood := { row := fnPackagistNumbersRow, standIns := [], harness := (true, "3698927a9c9adfef7ad2e45ef17ea59e794d8157411c00ba2dfd2826c57988b9"), looks := true }, kinds := [], alts := [], laidByText := true, laidKinds := [.data, .data, .data, .sentinel, .sentinel, .sentinel, .sentinel, .sentinel, .sentinel], laidTests := true, laidLooks := .later }
def FnPackagistNumbersCardSaid : Prop := Claim7.holds Tryd.pinned (.plain (OpenSpec.ofChange fnPackagistNumbersSpec)) fnPackagistNumbersCard

/-- THE TIED CARD OF 'laws.FnLikeParse'. -/
def fnLikeParseCard : Claim7 := { stood := { row := fnLikeParseRow, standIns := [], harness := (true, "3698927a9c9adfef7ad2e45ef17ea59e794d8157411c00ba2dfd2826c57988b9"), looks := true }, kinds := [], alts := [], laidByText := true, laidKinds := [.data, .sentinel, .sentinel, .sentinel, .pinned], laidTests := true, laidLooks := .later }
def FnLikeParseCardSaid : Prop := Claim7.holds Tryd.pinned (.plain (OpenSpec.ofChange fnLikeParseSpec)) fnLikeParseCard

/-- THE SECOND FORM's CARD OF 'laws.FnToken'. -/
def fnTokenUptoCard : Claim7 := { stood := { row := fnTokenUptoRow, standIns := [], harness := (true, "3698927a9c9adfef7ad2e45ef17ea59e794d8157411c00ba2dfd2826c57988b9"), looks := true }, kinds := [], alts := [], laidByText := true, laidKinds := [.sentinel, .sentinel, .sentinel, .sentinel], laidTests := true, laidLooks := .later }
def FnTokenUptoCardSaid : Prop := Claim7.holds Tryd.pinned (.plain (OpenSpec.upto fnTokenSpec)) fnTokenUptoCard

/-- THE SECOND FORM's CARD OF 'laws.FnMavenSame'. -/
def fnMavenSameUptoCard : Claim7 := { stood := { row := fnMavenSameUptoRow, standIns := [], harness := (true, "3698927a9c9adfef7ad2e45ef17ea59e794d8157411c00ba2dfd2826c57988b9"), looks := true }, kinds := [], alts := [], laidByText := true, laidKinds := [.sentinel, .sentinel, .sentinel, .sentinel, .data], laidTests := true, laidLooks := .later }
def FnMavenSameUptoCardSaid : Prop := Claim7.holds Tryd.pinned (.plain (OpenSpec.upto fnMavenSameSpec)) fnMavenSameUptoCard

/-- THE SECOND FORM's CARD OF 'laws.FnMavenQualifiers'. -/
def fnMavenQualifiersUptoCard : Claim7 := { stood := { row := fnMavenQualifiersUptoRow, standIns := [], harness := (true, "3698927a9c9adfef7ad2e45ef17ea59e794d8157411c00ba2dfd2826c57988b9"), looks := true }, kinds := [], alts := [], laidByText := true, laidKinds := [.sentinel, .sentinel, .sentinel, .sentinel, .data], laidTests := true, laidLooks := .later }
def FnMavenQualifiersUptoCardSaid : Prop := Claim7.holds Tryd.pinned (.plain (OpenSpec.upto fnMavenQualifiersSpec)) fnMavenQualifiersUptoCard

/-- THE SECOND FORM's CARD OF 'laws.FnPyPILocal'. -/
def fnPyPILocalUptoCard : Claim7 := { stood := { row := fnPyPILocalUptoRow, standIns := [], harness := (true, "3698927a9c9adfef7ad2e45ef17ea59e794d8157411c00ba2dfd2826c57988b9"), looks := true }, kinds := [], alts := [], laidByText := true, laidKinds := [.sentinel, .sentinel, .sentinel, .sentinel], laidTests := true, laidLooks := .later }
def FnPyPILocalUptoCardSaid : Prop := Claim7.holds Tryd.pinned (.plain (OpenSpec.upto fnPyPILocalSpec)) fnPyPILocalUptoCard

/-- THE SECOND FORM's CARD OF 'laws.FnPyPILocalOrder'. -/
def fnPyPILocalOrderUptoCard : Claim7 := { stood := { row := fnPyPILocalOrderUptoRow, standIns := [], harness := (true, "3698927a9c9adfef7ad2e45ef17ea59e794d8157411c00ba2dfd2826c57988b9"), looks := true }, kinds := [], alts := [], laidByText := true, laidKinds := [.sentinel, .sentinel, .sentinel, .sentinel], laidTests := true, laidLooks := .later }
def FnPyPILocalOrderUptoCardSaid : Prop := Claim7.holds Tryd.pinned (.plain (OpenSpec.upto fnPyPILocalOrderSpec)) fnPyPILocalOrderUptoCard

/-- THE SECOND FORM's CARD OF 'laws.FnLetterVersion'. -/
def fnLetterVersionUptoCard : Claim7 := { stood := { row := fnLetterVersionUptoRow, standIns := [], harness := (true, "3698927a9c9adfef7ad2e45ef17ea59e794d8157411c00ba2dfd2826c57988b9"), looks := true }, kinds := [], alts := [], laidByText := true, laidKinds := [.data, .sentinel, .sentinel, .sentinel, .sentinel, .pinned, .pinned], laidTests := true, laidLooks := .later }
def FnLetterVersionUptoCardSaid : Prop := Claim7.holds Tryd.pinned (.plain (OpenSpec.upto fnLetterVersionSpec)) fnLetterVersionUptoCard

/-- THE SECOND FORM's CARD OF 'laws.FnCRAN'. -/
def fnCRANUptoCard : Claim7 := { stood := { row := fnCRANUptoRow, standIns := [], harness := (true, "3698927a9c9adfef7ad2e45ef17ea59e794d8157411c00ba2dfd2826c57988b9"), looks := true }, kinds := [], alts := [], laidByText := true, laidKinds := [.sentinel, .sentinel, .sentinel, .sentinel, .sentinel], laidTests := true, laidLooks := .later }
def FnCRANUptoCardSaid : Prop := Claim7.holds Tryd.pinned (.plain (OpenSpec.upto fnCRANSpec)) fnCRANUptoCard

/-- THE SECOND FORM's CARD OF 'laws.FnCRANMarks'. -/
def fnCRANMarksUptoCard : Claim7 := { stood := { row := fnCRANMarksUptoRow, standIns := [], harness := (true, "3698927a9c9adfef7ad2e45ef17ea59e794d8157411c00ba2dfd2826c57988b9"), looks := true }, kinds := [], alts := [], laidByText := true, laidKinds := [.sentinel, .sentinel, .sentinel, .sentinel, .sentinel], laidTests := true, laidLooks := .later }
def FnCRANMarksUptoCardSaid : Prop := Claim7.holds Tryd.pinned (.plain (OpenSpec.upto fnCRANMarksSpec)) fnCRANMarksUptoCard

/-- THE SECOND FORM's CARD OF 'laws.FnCRANZeros'. -/
def fnCRANZerosUptoCard : Claim7 := { stood := { row := fnCRANZerosUptoRow, standIns := [], harness := (true, "3698927a9c9adfef7ad2e45ef17ea59e794d8157411c00ba2dfd2826c57988b9"), looks := true }, kinds := [], alts := [], laidByText := true, laidKinds := [.sentinel, .sentinel, .sentinel, .sentinel, .sentinel], laidTests := true, laidLooks := .later }
def FnCRANZerosUptoCardSaid : Prop := Claim7.holds Tryd.pinned (.plain (OpenSpec.upto fnCRANZerosSpec)) fnCRANZerosUptoCard

/-- THE SECOND FORM's CARD OF 'laws.FnPackagistNumbers'. -/
def fnPackagistNumbersUptoCard : Claim7 := { stood := { row := fnPackagistNumbersUptoRow, standIns := [], harness := (true, "3698927a9c9adfef7ad2e45ef17ea59e794d8157411c00ba2dfd2826c57988b9"), looks := true }, kinds := [], alts := [], laidByText := true, laidKinds := [.data, .data, .data, .sentinel, .sentinel, .sentinel, .sentinel, .sentinel, .sentinel], laidTests := true, laidLooks := .later }
def FnPackagistNumbersUptoCardSaid : Prop := Claim7.holds Tryd.pinned (.plain (OpenSpec.upto fnPackagistNumbersSpec)) fnPackagistNumbersUptoCard

/-- THE SECOND FORM's CARD OF 'laws.FnLikeParse'. -/
def fnLikeParseUptoCard : Claim7 := { stood := { row := fnLikeParseUptoRow, standIns := [], harness := (true, "3698927a9c9adfef7ad2e45ef17ea59e794d8157411c00ba2dfd2826c57988b9"), looks := true }, kinds := [], alts := [], laidByText := true, laidKinds := [.data, .sentinel, .sentinel, .sentinel, .pinned], laidTests := true, laidLooks := .later }
def FnLikeParseUptoCardSaid : Prop := Claim7.holds Tryd.pinned (.plain (OpenSpec.upto fnLikeParseSpec)) fnLikeParseUptoCard
end Rows
end Go.Proofs.YtchbfjjeodnocaaDoor
