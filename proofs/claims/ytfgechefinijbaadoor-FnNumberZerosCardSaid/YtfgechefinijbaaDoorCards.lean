/-
  DERIVED. GIVEN WITH THE SEED: THE CARDS: each row of YtfgechefinijbaaDoorRows.lean that lists a variable, with what it lists TIED to the program's text (the seventh form; the later family's looks); each row that meets fmt, with fmt's text TOLD by the authors' own Lean function (tested against real Go, not proved from fmt's source: count such statements apart). THE CARD IS WHAT COUNTS. Prove the row's statement (the work); the ties are given (YtfgechefinijbaaDoorTie.lean); close each card by the builder's one call (the guide's Derived/Test/ToyasCard.lean, 'card_holds'). Laid BY PROGRAM, IN A SANDBOX (cutbox-door.mjs). By AI agents, Wed Nov 11 2026. No macro, syntax, notation, axiom, sorry.
-/
import Derived.Test.YtfgechefinijbaaDoorRows
import GoSem.ClaimSeven
namespace Go.Proofs.YtfgechefinijbaaDoor
namespace Rows

/-- THE TIED CARD OF 'laws.FnNumberZeros'. -/
def fnNumberZerosCard : Claim7 := { stood := { row := fnNumberZerosRow, standIns := [], harness := (true, "f1d7652346c17199e805705874372295c797a437aee2c071a3f17d84b4626447"), looks := true }, kinds := [], alts := [], laidByText := true, laidKinds := [.sentinel, .sentinel, .sentinel, .sentinel], laidTests := true, laidLooks := .later }
def FnNumberZerosCardSaid : Prop := Claim7.holds Tryd.pinned (.plain (OpenSpec.ofChange fnNumberZerosSpec)) fnNumberZerosCard

/-- THE TIED CARD OF 'laws.FnRubyGroups'. -/
def fnRubyGroupsCard : Claim7 := { stood := { row := fnRubyGroupsRow, standIns := [], harness := (true, "f1d7652346c17199e805705874372295c797a437aee2c071a3f17d84b4626447"), looks := true }, kinds := [], alts := [], laidByText := true, laidKinds := [.sentinel, .sentinel, .sentinel, .sentinel], laidTests := true, laidLooks := .later }
def FnRubyGroupsCardSaid : Prop := Claim7.holds Tryd.pinned (.plain (OpenSpec.ofChange fnRubyGroupsSpec)) fnRubyGroupsCard

/-- THE TIED CARD OF 'laws.FnRubySegments'. -/
def fnRubySegmentsCard : Claim7 := { stood := { row := fnRubySegmentsRow, standIns := [], harness := (true, "f1d7652346c17199e805705874372295c797a437aee2c071a3f17d84b4626447"), looks := true }, kinds := [], alts := [], laidByText := true, laidKinds := [.sentinel, .sentinel, .sentinel, .sentinel], laidTests := true, laidLooks := .later }
def FnRubySegmentsCardSaid : Prop := Claim7.holds Tryd.pinned (.plain (OpenSpec.ofChange fnRubySegmentsSpec)) fnRubySegmentsCard

/-- THE TIED CARD OF 'laws.FnRubySegmentsOrder'. -/
def fnRubySegmentsOrderCard : Claim7 := { stood := { row := fnRubySegmentsOrderRow, standIns := [], harness := (true, "f1d7652346c17199e805705874372295c797a437aee2c071a3f17d84b4626447"), looks := true }, kinds := [], alts := [], laidByText := true, laidKinds := [.sentinel, .sentinel, .sentinel, .sentinel], laidTests := true, laidLooks := .later }
def FnRubySegmentsOrderCardSaid : Prop := Claim7.holds Tryd.pinned (.plain (OpenSpec.ofChange fnRubySegmentsOrderSpec)) fnRubySegmentsOrderCard

/-- THE TIED CARD OF 'laws.FnRubyParse'. -/
def fnRubyParseCard : Claim7 := { stood := { row := fnRubyParseRow, standIns := [], harness := (true, "f1d7652346c17199e805705874372295c797a437aee2c071a3f17d84b4626447"), looks := true }, kinds := [], alts := [], laidByText := true, laidKinds := [.sentinel, .sentinel, .sentinel, .sentinel], laidTests := true, laidLooks := .later }
def FnRubyParseCardSaid : Prop := Claim7.holds Tryd.pinned (.plain (OpenSpec.ofChange fnRubyParseSpec)) fnRubyParseCard

/-- THE TIED CARD OF 'laws.FnRubyOrder'. -/
def fnRubyOrderCard : Claim7 := { stood := { row := fnRubyOrderRow, standIns := [], harness := (true, "f1d7652346c17199e805705874372295c797a437aee2c071a3f17d84b4626447"), looks := true }, kinds := [], alts := [], laidByText := true, laidKinds := [.sentinel, .sentinel, .sentinel, .sentinel, .sentinel], laidTests := true, laidLooks := .later }
def FnRubyOrderCardSaid : Prop := Claim7.holds Tryd.pinned (.plain (OpenSpec.ofChange fnRubyOrderSpec)) fnRubyOrderCard

/-- THE TIED CARD OF 'laws.FnGem'. -/
def fnGemCard : Claim7 := { stood := { row := fnGemRow, standIns := [], harness := (true, "f1d7652346c17199e805705874372295c797a437aee2c071a3f17d84b4626447"), looks := true }, kinds := [], alts := [], laidByText := true, laidKinds := [.sentinel, .sentinel, .sentinel, .sentinel, .sentinel], laidTests := true, laidLooks := .later }
def FnGemCardSaid : Prop := Claim7.holds Tryd.pinned (.plain (OpenSpec.ofChange fnGemSpec)) fnGemCard

/-- THE TIED CARD OF 'laws.FnIdentifiersLonger'. -/
def fnIdentifiersLongerCard : Claim7 := { stood := { row := fnIdentifiersLongerRow, standIns := [], harness := (true, "f1d7652346c17199e805705874372295c797a437aee2c071a3f17d84b4626447"), looks := true }, kinds := [], alts := [], laidByText := true, laidKinds := [.sentinel, .sentinel, .sentinel, .sentinel], laidTests := true, laidLooks := .later }
def FnIdentifiersLongerCardSaid : Prop := Claim7.holds Tryd.pinned (.plain (OpenSpec.ofChange fnIdentifiersLongerSpec)) fnIdentifiersLongerCard

/-- THE TIED CARD OF 'laws.FnIdentifiersOrder'. -/
def fnIdentifiersOrderCard : Claim7 := { stood := { row := fnIdentifiersOrderRow, standIns := [], harness := (true, "f1d7652346c17199e805705874372295c797a437aee2c071a3f17d84b4626447"), looks := true }, kinds := [], alts := [], laidByText := true, laidKinds := [.sentinel, .sentinel, .sentinel, .sentinel], laidTests := true, laidLooks := .later }
def FnIdentifiersOrderCardSaid : Prop := Claim7.holds Tryd.pinned (.plain (OpenSpec.ofChange fnIdentifiersOrderSpec)) fnIdentifiersOrderCard

/-- THE TIED CARD OF 'laws.FnBuilds'. -/
def fnBuildsCard : Claim7 := { stood := { row := fnBuildsRow, standIns := [], harness := (true, "f1d7652346c17199e805705874372295c797a437aee2c071a3f17d84b4626447"), looks := true }, kinds := [], alts := [], laidByText := true, laidKinds := [.sentinel, .sentinel, .sentinel, .sentinel], laidTests := true, laidLooks := .later }
def FnBuildsCardSaid : Prop := Claim7.holds Tryd.pinned (.plain (OpenSpec.ofChange fnBuildsSpec)) fnBuildsCard

/-- THE TIED CARD OF 'laws.FnBuildsOrder'. -/
def fnBuildsOrderCard : Claim7 := { stood := { row := fnBuildsOrderRow, standIns := [], harness := (true, "f1d7652346c17199e805705874372295c797a437aee2c071a3f17d84b4626447"), looks := true }, kinds := [], alts := [], laidByText := true, laidKinds := [.sentinel, .sentinel, .sentinel, .sentinel], laidTests := true, laidLooks := .later }
def FnBuildsOrderCardSaid : Prop := Claim7.holds Tryd.pinned (.plain (OpenSpec.ofChange fnBuildsOrderSpec)) fnBuildsOrderCard

/-- THE SECOND FORM's CARD OF 'laws.FnNumberZeros'. -/
def fnNumberZerosUptoCard : Claim7 := { stood := { row := fnNumberZerosUptoRow, standIns := [], harness := (true, "f1d7652346c17199e805705874372295c797a437aee2c071a3f17d84b4626447"), looks := true }, kinds := [], alts := [], laidByText := true, laidKinds := [.sentinel, .sentinel, .sentinel, .sentinel], laidTests := true, laidLooks := .later }
def FnNumberZerosUptoCardSaid : Prop := Claim7.holds Tryd.pinned (.plain (OpenSpec.upto fnNumberZerosSpec)) fnNumberZerosUptoCard

/-- THE SECOND FORM's CARD OF 'laws.FnRubyGroups'. -/
def fnRubyGroupsUptoCard : Claim7 := { stood := { row := fnRubyGroupsUptoRow, standIns := [], harness := (true, "f1d7652346c17199e805705874372295c797a437aee2c071a3f17d84b4626447"), looks := true }, kinds := [], alts := [], laidByText := true, laidKinds := [.sentinel, .sentinel, .sentinel, .sentinel], laidTests := true, laidLooks := .later }
def FnRubyGroupsUptoCardSaid : Prop := Claim7.holds Tryd.pinned (.plain (OpenSpec.upto fnRubyGroupsSpec)) fnRubyGroupsUptoCard

/-- THE SECOND FORM's CARD OF 'laws.FnRubySegments'. -/
def fnRubySegmentsUptoCard : Claim7 := { stood := { row := fnRubySegmentsUptoRow, standIns := [], harness := (true, "f1d7652346c17199e805705874372295c797a437aee2c071a3f17d84b4626447"), looks := true }, kinds := [], alts := [], laidByText := true, laidKinds := [.sentinel, .sentinel, .sentinel, .sentinel], laidTests := true, laidLooks := .later }
def FnRubySegmentsUptoCardSaid : Prop := Claim7.holds Tryd.pinned (.plain (OpenSpec.upto fnRubySegmentsSpec)) fnRubySegmentsUptoCard

/-- THE SECOND FORM's CARD OF 'laws.FnRubySegmentsOrder'. -/
def fnRubySegmentsOrderUptoCard : Claim7 := { stood := { row := fnRubySegmentsOrderUptoRow, standIns := [], harness := (true, "f1d7652346c17199e805705874372295c797a437aee2c071a3f17d84b4626447"), looks := true }, kinds := [], alts := [], laidByText := true, laidKinds := [.sentinel, .sentinel, .sentinel, .sentinel], laidTests := true, laidLooks := .later }
def FnRubySegmentsOrderUptoCardSaid : Prop := Claim7.holds Tryd.pinned (.plain (OpenSpec.upto fnRubySegmentsOrderSpec)) fnRubySegmentsOrderUptoCard

/-- THE SECOND FORM's CARD OF 'laws.FnRubyParse'. -/
def fnRubyParseUptoCard : Claim7 := { stood := { row := fnRubyParseUptoRow, standIns := [], harness := (true, "f1d7652346c17199e805705874372295c797a437aee2c071a3f17d84b4626447"), looks := true }, kinds := [], alts := [], laidByText := true, laidKinds := [.sentinel, .sentinel, .sentinel, .sentinel], laidTests := true, laidLooks := .later }
def FnRubyParseUptoCardSaid : Prop := Claim7.holds Tryd.pinned (.plain (OpenSpec.upto fnRubyParseSpec)) fnRubyParseUptoCard

/-- THE SECOND FORM's CARD OF 'laws.FnRubyOrder'. -/
def fnRubyOrderUptoCard : Claim7 := { stood := { row := fnRubyOrderUptoRow, standIns := [], harness := (true, "f1d7652346c17199e805705874372295c797a437aee2c071a3f17d84b4626447"), looks := true }, kinds := [], alts := [], laidByText := true, laidKinds := [.sentinel, .sentinel, .sentinel, .sentinel, .sentinel], laidTests := true, laidLooks := .later }
def FnRubyOrderUptoCardSaid : Prop := Claim7.holds Tryd.pinned (.plain (OpenSpec.upto fnRubyOrderSpec)) fnRubyOrderUptoCard

/-- THE SECOND FORM's CARD OF 'laws.FnGem'. -/
def fnGemUptoCard : Claim7 := { stood := { row := fnGemUptoRow, standIns := [], harness := (true, "f1d7652346c17199e805705874372295c797a437aee2c071a3f17d84b4626447"), looks := true }, kinds := [], alts := [], laidByText := true, laidKinds := [.sentinel, .sentinel, .sentinel, .sentinel, .sentinel], laidTests := true, laidLooks := .later }
def FnGemUptoCardSaid : Prop := Claim7.holds Tryd.pinned (.plain (OpenSpec.upto fnGemSpec)) fnGemUptoCard

/-- THE SECOND FORM's CARD OF 'laws.FnIdentifiersLonger'. -/
def fnIdentifiersLongerUptoCard : Claim7 := { stood := { row := fnIdentifiersLongerUptoRow, standIns := [], harness := (true, "f1d7652346c17199e805705874372295c797a437aee2c071a3f17d84b4626447"), looks := true }, kinds := [], alts := [], laidByText := true, laidKinds := [.sentinel, .sentinel, .sentinel, .sentinel], laidTests := true, laidLooks := .later }
def FnIdentifiersLongerUptoCardSaid : Prop := Claim7.holds Tryd.pinned (.plain (OpenSpec.upto fnIdentifiersLongerSpec)) fnIdentifiersLongerUptoCard

/-- THE SECOND FORM's CARD OF 'laws.FnIdentifiersOrder'. -/
def fnIdentifiersOrderUptoCard : Claim7 := { stood := { row := fnIdentifiersOrderUptoRow, standIns := [], harness := (true, "f1d7652346c17199e805705874372295c797a437aee2c071a3f17d84b4626447"), looks := true }, kinds := [], alts := [], laidByText := true, laidKinds := [.sentinel, .sentinel, .sentinel, .sentinel], laidTests := true, laidLooks := .later }
def FnIdentifiersOrderUptoCardSaid : Prop := Claim7.holds Tryd.pinned (.plain (OpenSpec.upto fnIdentifiersOrderSpec)) fnIdentifiersOrderUptoCard

/-- THE SECOND FORM's CARD OF 'laws.FnBuilds'. -/
def fnBuildsUptoCard : Claim7 := { stood := { row := fnBuildsUptoRow, standIns := [], harness := (true, "f1d7652346c17199e805705874372295c797a437aee2c071a3f17d84b4626447"), looks := true }, kinds := [], alts := [], laidByText := true, laidKinds := [.sentinel, .sentinel, .sentinel, .sentinel], laidTests := true, laidLooks := .later }
def FnBuildsUptoCardSaid : Prop := Claim7.holds Tryd.pinned (.plain (OpenSpec.upto fnBuildsSpec)) fnBuildsUptoCard

/-- THE SECOND FORM's CARD OF 'laws.FnBuildsOrder'. -/
def fnBuildsOrderUptoCard : Claim7 := { stood := { row := fnBuildsOrderUptoRow, standIns := [], harness := (true, "f1d7652346c17199e805705874372295c797a437aee2c071a3f17d84b4626447"), looks := true }, kinds := [], alts := [], laidByText := true, laidKinds := [.sentinel, .sentinel, .sentinel, .sentinel], laidTests := true, laidLooks := .later }
def FnBuildsOrderUptoCardSaid : Prop := Claim7.holds Tryd.pinned (.plain (OpenSpec.upto fnBuildsOrderSpec)) fnBuildsOrderUptoCard
end Rows
end Go.Proofs.YtfgechefinijbaaDoor
