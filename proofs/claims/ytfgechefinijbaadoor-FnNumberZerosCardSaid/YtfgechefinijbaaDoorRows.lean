/-
  NARROWER THAN 'FOR EVERY INPUT', by the rows' own cells (each row's printed sentence says how): FnNumberZeros: laid · FnRubyGroups: laid · FnRubySegments: laid · FnRubySegmentsOrder: laid · FnRubyParse: laid · FnRubyOrder: laid · FnGem: laid · FnIdentifiersLonger: laid · FnIdentifiersOrder: laid · FnBuilds: laid · FnBuildsOrder: laid.
  DERIVED. THE GIVEN ROWS OF THIS SEAT. 11 by the template 'for every input the law returns true; each argument reads behind the call as it read before'; 0 by the template 'total and deterministic' (their statements: YtfgechefinijbaaDoorTotals.lean).
  GIVEN WITH THE SEED: the statements are not yours to turn. If you find one false, say at which input.
  Laid BY PROGRAM, IN A SANDBOX (cutbox-rows.mjs): the forced cells as the released guide's own fill.sh prints them over the translation e19338890c384665… (all of the seat's roots in one cut). By AI agents, Wed Nov 11 2026. No macro, syntax, notation, axiom, sorry.
-/
import Derived.Test.YtfgechefinijbaaDoorChecked
import GoSem.Claim
import GoSem.ClaimJoined
import GoSem.ClaimMapViews
import Derived.JoinedTies
import Derived.KernelRfl
namespace Go.Proofs.YtfgechefinijbaaDoor
/- THE CELL 'sum', in the pinned program and in every row, IS THE sha256 OF THE DUMP (.gsa) THAT YtfgechefinijbaaDoorProg.lean LOADS. Nothing in Lean hashes anything: it is a label: what it is worth is what the hold of that sum in a sandbox is worth. -/
noncomputable def Tryd.pinned : Pinned := { name := "ytfgechefinijbaadoor", sum := "e19338890c384665df1f98f5d15e60c1220f411a79f30ffd87e2b1cf4e3c1750", checked := Tryd.checked }
namespace Rows
def none {H : Type} : Left H := { results := [], args := [] }

/- WHAT THE LISTED PACKAGE-LEVEL VARIABLES READ AS WHEN THE CALL BEGINS. Each datum BY PROGRAM (the guide's laid-datum.mjs) off the statement by which the dump's own 'gosem.cut.vars' lays the variable. In a bare row this is a premise. The card (YtfgechefinijbaaDoorCards.lean) ties it to the program's text. -/
def laid_io_EOF {H : Type} : DataW H := .iface "*errors.errorString" (.ptr (.agg [.lit (.string [69, 79, 70])]))
def laid_pub_seniority_pub_bigall_errNoDigits {H : Type} : DataW H := .iface "*errors.errorString" (.ptr (.agg [.lit (.string [110, 117, 109, 98, 101, 114, 32, 104, 97, 115, 32, 110, 111, 32, 100, 105, 103, 105, 116, 115])]))
def laid_pub_seniority_pub_bigall_errInvalSep {H : Type} : DataW H := .iface "*errors.errorString" (.ptr (.agg [.lit (.string [39, 95, 39, 32, 109, 117, 115, 116, 32, 115, 101, 112, 97, 114, 97, 116, 101, 32, 115, 117, 99, 99, 101, 115, 115, 105, 118, 101, 32, 100, 105, 103, 105, 116, 115])]))
def laid_pub_seniority_pub_scalibr_semantic_ErrInvalidVersion {H : Type} : DataW H := .iface "*errors.errorString" (.ptr (.agg [.lit (.string [105, 110, 118, 97, 108, 105, 100, 32, 118, 101, 114, 115, 105, 111, 110])]))
def laid_pub_seniority_pub_scalibr_semantic_ErrNotSameEcosystem {H : Type} : DataW H := .iface "*errors.errorString" (.ptr (.agg [.lit (.string [118, 101, 114, 115, 105, 111, 110, 32, 105, 115, 32, 110, 111, 116, 32, 111, 102, 32, 116, 104, 101, 32, 115, 97, 109, 101, 32, 101, 99, 111, 115, 121, 115, 116, 101, 109])]))

/-- 'laws.FnNumberZeros': WHATEVER THE INPUT: true; the input reads as it did. -/
def fnNumberZerosSpec : ChangeSpec := { name := "fnNumberZeros", fn := fun _ => fun
  | [d1, d2] => { results := [.lit (.bool true)], args := [d1, d2] }
  | _ => none }
def fnNumberZerosRow : OpenClaim := { program := "ytfgechefinijbaadoor", sum := "e19338890c384665df1f98f5d15e60c1220f411a79f30ffd87e2b1cf4e3c1750", func := "pub-seniority/laws.FnNumberZeros", spec := "fnNumberZeros", inPlace := ["math/bits.Add64"], unfollowed := true, recurses := true, named := ["pub-seniority/pub/scalibr/semantic.ErrInvalidVersion", "io.EOF", "pub-seniority/pub/bigall.errInvalSep", "pub-seniority/pub/bigall.errNoDigits"], apart := false, laid := [("io.EOF", laid_io_EOF), ("pub-seniority/pub/bigall.errNoDigits", laid_pub_seniority_pub_bigall_errNoDigits), ("pub-seniority/pub/bigall.errInvalSep", laid_pub_seniority_pub_bigall_errInvalSep), ("pub-seniority/pub/scalibr/semantic.ErrInvalidVersion", laid_pub_seniority_pub_scalibr_semantic_ErrInvalidVersion)] }
def FnNumberZerosSaid : Prop := fnNumberZerosRow.holds Tryd.pinned (OpenSpec.ofChange fnNumberZerosSpec)

/-- ITS FALSE NEIGHBOUR: 'it returns false'. Refute it at one input. -/
def fnNumberZerosWrong : ChangeSpec := { name := "fnNumberZeros", fn := fun _ => fun
  | [d1, d2] => { results := [.lit (.bool false)], args := [d1, d2] }
  | _ => none }
def FnNumberZerosWrongFalsely : Prop := fnNumberZerosRow.holds Tryd.pinned (OpenSpec.ofChange fnNumberZerosWrong)

/-- 'laws.FnRubyGroups': WHATEVER THE INPUT: true; the input reads as it did. -/
def fnRubyGroupsSpec : ChangeSpec := { name := "fnRubyGroups", fn := fun _ => fun
  | [d] => { results := [.lit (.bool true)], args := [d] }
  | _ => none }
def fnRubyGroupsRow : OpenClaim := { program := "ytfgechefinijbaadoor", sum := "e19338890c384665df1f98f5d15e60c1220f411a79f30ffd87e2b1cf4e3c1750", func := "pub-seniority/laws.FnRubyGroups", spec := "fnRubyGroups", inPlace := ["math/bits.Add64"], unfollowed := true, recurses := true, named := ["pub-seniority/pub/scalibr/semantic.ErrInvalidVersion", "io.EOF", "pub-seniority/pub/bigall.errInvalSep", "pub-seniority/pub/bigall.errNoDigits"], apart := false, laid := [("io.EOF", laid_io_EOF), ("pub-seniority/pub/bigall.errNoDigits", laid_pub_seniority_pub_bigall_errNoDigits), ("pub-seniority/pub/bigall.errInvalSep", laid_pub_seniority_pub_bigall_errInvalSep), ("pub-seniority/pub/scalibr/semantic.ErrInvalidVersion", laid_pub_seniority_pub_scalibr_semantic_ErrInvalidVersion)] }
def FnRubyGroupsSaid : Prop := fnRubyGroupsRow.holds Tryd.pinned (OpenSpec.ofChange fnRubyGroupsSpec)

/-- ITS FALSE NEIGHBOUR: 'it returns false'. Refute it at one input. -/
def fnRubyGroupsWrong : ChangeSpec := { name := "fnRubyGroups", fn := fun _ => fun
  | [d] => { results := [.lit (.bool false)], args := [d] }
  | _ => none }
def FnRubyGroupsWrongFalsely : Prop := fnRubyGroupsRow.holds Tryd.pinned (OpenSpec.ofChange fnRubyGroupsWrong)

/-- 'laws.FnRubySegments': WHATEVER THE INPUT: true; the input reads as it did. -/
def fnRubySegmentsSpec : ChangeSpec := { name := "fnRubySegments", fn := fun _ => fun
  | [d1, d2] => { results := [.lit (.bool true)], args := [d1, d2] }
  | _ => none }
def fnRubySegmentsRow : OpenClaim := { program := "ytfgechefinijbaadoor", sum := "e19338890c384665df1f98f5d15e60c1220f411a79f30ffd87e2b1cf4e3c1750", func := "pub-seniority/laws.FnRubySegments", spec := "fnRubySegments", inPlace := ["math/bits.Add64", "internal/bytealg.abigen_runtime_cmpstring"], unfollowed := true, recurses := true, named := ["pub-seniority/pub/scalibr/semantic.ErrInvalidVersion", "io.EOF", "pub-seniority/pub/bigall.errInvalSep", "pub-seniority/pub/bigall.errNoDigits"], apart := false, laid := [("io.EOF", laid_io_EOF), ("pub-seniority/pub/bigall.errNoDigits", laid_pub_seniority_pub_bigall_errNoDigits), ("pub-seniority/pub/bigall.errInvalSep", laid_pub_seniority_pub_bigall_errInvalSep), ("pub-seniority/pub/scalibr/semantic.ErrInvalidVersion", laid_pub_seniority_pub_scalibr_semantic_ErrInvalidVersion)] }
def FnRubySegmentsSaid : Prop := fnRubySegmentsRow.holds Tryd.pinned (OpenSpec.ofChange fnRubySegmentsSpec)

/-- ITS FALSE NEIGHBOUR: 'it returns false'. Refute it at one input. -/
def fnRubySegmentsWrong : ChangeSpec := { name := "fnRubySegments", fn := fun _ => fun
  | [d1, d2] => { results := [.lit (.bool false)], args := [d1, d2] }
  | _ => none }
def FnRubySegmentsWrongFalsely : Prop := fnRubySegmentsRow.holds Tryd.pinned (OpenSpec.ofChange fnRubySegmentsWrong)

/-- 'laws.FnRubySegmentsOrder': WHATEVER THE INPUT: true; the input reads as it did. -/
def fnRubySegmentsOrderSpec : ChangeSpec := { name := "fnRubySegmentsOrder", fn := fun _ => fun
  | [d1, d2, d3] => { results := [.lit (.bool true)], args := [d1, d2, d3] }
  | _ => none }
def fnRubySegmentsOrderRow : OpenClaim := { program := "ytfgechefinijbaadoor", sum := "e19338890c384665df1f98f5d15e60c1220f411a79f30ffd87e2b1cf4e3c1750", func := "pub-seniority/laws.FnRubySegmentsOrder", spec := "fnRubySegmentsOrder", inPlace := ["math/bits.Add64", "internal/bytealg.abigen_runtime_cmpstring"], unfollowed := true, recurses := true, named := ["pub-seniority/pub/scalibr/semantic.ErrInvalidVersion", "io.EOF", "pub-seniority/pub/bigall.errInvalSep", "pub-seniority/pub/bigall.errNoDigits"], apart := false, laid := [("io.EOF", laid_io_EOF), ("pub-seniority/pub/bigall.errNoDigits", laid_pub_seniority_pub_bigall_errNoDigits), ("pub-seniority/pub/bigall.errInvalSep", laid_pub_seniority_pub_bigall_errInvalSep), ("pub-seniority/pub/scalibr/semantic.ErrInvalidVersion", laid_pub_seniority_pub_scalibr_semantic_ErrInvalidVersion)] }
def FnRubySegmentsOrderSaid : Prop := fnRubySegmentsOrderRow.holds Tryd.pinned (OpenSpec.ofChange fnRubySegmentsOrderSpec)

/-- ITS FALSE NEIGHBOUR: 'it returns false'. Refute it at one input. -/
def fnRubySegmentsOrderWrong : ChangeSpec := { name := "fnRubySegmentsOrder", fn := fun _ => fun
  | [d1, d2, d3] => { results := [.lit (.bool false)], args := [d1, d2, d3] }
  | _ => none }
def FnRubySegmentsOrderWrongFalsely : Prop := fnRubySegmentsOrderRow.holds Tryd.pinned (OpenSpec.ofChange fnRubySegmentsOrderWrong)

/-- 'laws.FnRubyParse': WHATEVER THE INPUT: true; the input reads as it did. -/
def fnRubyParseSpec : ChangeSpec := { name := "fnRubyParse", fn := fun _ => fun
  | [d] => { results := [.lit (.bool true)], args := [d] }
  | _ => none }
def fnRubyParseRow : OpenClaim := { program := "ytfgechefinijbaadoor", sum := "e19338890c384665df1f98f5d15e60c1220f411a79f30ffd87e2b1cf4e3c1750", func := "pub-seniority/laws.FnRubyParse", spec := "fnRubyParse", inPlace := ["internal/abi.NoEscape", "math/bits.Add64"], unfollowed := true, recurses := true, named := ["pub-seniority/pub/scalibr/semantic.ErrInvalidVersion", "io.EOF", "pub-seniority/pub/bigall.errInvalSep", "pub-seniority/pub/bigall.errNoDigits"], apart := false, laid := [("io.EOF", laid_io_EOF), ("pub-seniority/pub/bigall.errNoDigits", laid_pub_seniority_pub_bigall_errNoDigits), ("pub-seniority/pub/bigall.errInvalSep", laid_pub_seniority_pub_bigall_errInvalSep), ("pub-seniority/pub/scalibr/semantic.ErrInvalidVersion", laid_pub_seniority_pub_scalibr_semantic_ErrInvalidVersion)] }
def FnRubyParseSaid : Prop := fnRubyParseRow.holds Tryd.pinned (OpenSpec.ofChange fnRubyParseSpec)

/-- ITS FALSE NEIGHBOUR: 'it returns false'. Refute it at one input. -/
def fnRubyParseWrong : ChangeSpec := { name := "fnRubyParse", fn := fun _ => fun
  | [d] => { results := [.lit (.bool false)], args := [d] }
  | _ => none }
def FnRubyParseWrongFalsely : Prop := fnRubyParseRow.holds Tryd.pinned (OpenSpec.ofChange fnRubyParseWrong)

/-- 'laws.FnRubyOrder': WHATEVER THE INPUT: true; the input reads as it did. -/
def fnRubyOrderSpec : ChangeSpec := { name := "fnRubyOrder", fn := fun _ => fun
  | [d1, d2, d3] => { results := [.lit (.bool true)], args := [d1, d2, d3] }
  | _ => none }
def fnRubyOrderRow : OpenClaim := { program := "ytfgechefinijbaadoor", sum := "e19338890c384665df1f98f5d15e60c1220f411a79f30ffd87e2b1cf4e3c1750", func := "pub-seniority/laws.FnRubyOrder", spec := "fnRubyOrder", inPlace := ["internal/abi.NoEscape", "math/bits.Add64", "internal/bytealg.abigen_runtime_cmpstring"], unfollowed := true, recurses := true, named := ["pub-seniority/pub/scalibr/semantic.ErrInvalidVersion", "io.EOF", "pub-seniority/pub/bigall.errInvalSep", "pub-seniority/pub/bigall.errNoDigits", "pub-seniority/pub/scalibr/semantic.ErrNotSameEcosystem"], apart := false, laid := [("io.EOF", laid_io_EOF), ("pub-seniority/pub/bigall.errNoDigits", laid_pub_seniority_pub_bigall_errNoDigits), ("pub-seniority/pub/bigall.errInvalSep", laid_pub_seniority_pub_bigall_errInvalSep), ("pub-seniority/pub/scalibr/semantic.ErrInvalidVersion", laid_pub_seniority_pub_scalibr_semantic_ErrInvalidVersion), ("pub-seniority/pub/scalibr/semantic.ErrNotSameEcosystem", laid_pub_seniority_pub_scalibr_semantic_ErrNotSameEcosystem)] }
def FnRubyOrderSaid : Prop := fnRubyOrderRow.holds Tryd.pinned (OpenSpec.ofChange fnRubyOrderSpec)

/-- ITS FALSE NEIGHBOUR: 'it returns false'. Refute it at one input. -/
def fnRubyOrderWrong : ChangeSpec := { name := "fnRubyOrder", fn := fun _ => fun
  | [d1, d2, d3] => { results := [.lit (.bool false)], args := [d1, d2, d3] }
  | _ => none }
def FnRubyOrderWrongFalsely : Prop := fnRubyOrderRow.holds Tryd.pinned (OpenSpec.ofChange fnRubyOrderWrong)

/-- 'laws.FnGem': WHATEVER THE INPUT: true; the input reads as it did. -/
def fnGemSpec : ChangeSpec := { name := "fnGem", fn := fun _ => fun
  | [d1, d2] => { results := [.lit (.bool true)], args := [d1, d2] }
  | _ => none }
def fnGemRow : OpenClaim := { program := "ytfgechefinijbaadoor", sum := "e19338890c384665df1f98f5d15e60c1220f411a79f30ffd87e2b1cf4e3c1750", func := "pub-seniority/laws.FnGem", spec := "fnGem", inPlace := ["internal/abi.NoEscape", "math/bits.Add64", "internal/bytealg.abigen_runtime_cmpstring"], unfollowed := true, recurses := true, named := ["pub-seniority/pub/scalibr/semantic.ErrInvalidVersion", "io.EOF", "pub-seniority/pub/bigall.errInvalSep", "pub-seniority/pub/bigall.errNoDigits", "pub-seniority/pub/scalibr/semantic.ErrNotSameEcosystem"], apart := false, laid := [("io.EOF", laid_io_EOF), ("pub-seniority/pub/bigall.errNoDigits", laid_pub_seniority_pub_bigall_errNoDigits), ("pub-seniority/pub/bigall.errInvalSep", laid_pub_seniority_pub_bigall_errInvalSep), ("pub-seniority/pub/scalibr/semantic.ErrInvalidVersion", laid_pub_seniority_pub_scalibr_semantic_ErrInvalidVersion), ("pub-seniority/pub/scalibr/semantic.ErrNotSameEcosystem", laid_pub_seniority_pub_scalibr_semantic_ErrNotSameEcosystem)] }
def FnGemSaid : Prop := fnGemRow.holds Tryd.pinned (OpenSpec.ofChange fnGemSpec)

/-- ITS FALSE NEIGHBOUR: 'it returns false'. Refute it at one input. -/
def fnGemWrong : ChangeSpec := { name := "fnGem", fn := fun _ => fun
  | [d1, d2] => { results := [.lit (.bool false)], args := [d1, d2] }
  | _ => none }
def FnGemWrongFalsely : Prop := fnGemRow.holds Tryd.pinned (OpenSpec.ofChange fnGemWrong)

/-- 'laws.FnIdentifiersLonger': WHATEVER THE INPUT: true; the input reads as it did. -/
def fnIdentifiersLongerSpec : ChangeSpec := { name := "fnIdentifiersLonger", fn := fun _ => fun
  | [d1, d2, d3, d4] => { results := [.lit (.bool true)], args := [d1, d2, d3, d4] }
  | _ => none }
def fnIdentifiersLongerRow : OpenClaim := { program := "ytfgechefinijbaadoor", sum := "e19338890c384665df1f98f5d15e60c1220f411a79f30ffd87e2b1cf4e3c1750", func := "pub-seniority/laws.FnIdentifiersLonger", spec := "fnIdentifiersLonger", inPlace := ["math/bits.Add64", "internal/bytealg.abigen_runtime_cmpstring"], unfollowed := true, recurses := true, named := ["pub-seniority/pub/scalibr/semantic.ErrInvalidVersion", "io.EOF", "pub-seniority/pub/bigall.errInvalSep", "pub-seniority/pub/bigall.errNoDigits"], apart := false, laid := [("io.EOF", laid_io_EOF), ("pub-seniority/pub/bigall.errNoDigits", laid_pub_seniority_pub_bigall_errNoDigits), ("pub-seniority/pub/bigall.errInvalSep", laid_pub_seniority_pub_bigall_errInvalSep), ("pub-seniority/pub/scalibr/semantic.ErrInvalidVersion", laid_pub_seniority_pub_scalibr_semantic_ErrInvalidVersion)] }
def FnIdentifiersLongerSaid : Prop := fnIdentifiersLongerRow.holds Tryd.pinned (OpenSpec.ofChange fnIdentifiersLongerSpec)

/-- ITS FALSE NEIGHBOUR: 'it returns false'. Refute it at one input. -/
def fnIdentifiersLongerWrong : ChangeSpec := { name := "fnIdentifiersLonger", fn := fun _ => fun
  | [d1, d2, d3, d4] => { results := [.lit (.bool false)], args := [d1, d2, d3, d4] }
  | _ => none }
def FnIdentifiersLongerWrongFalsely : Prop := fnIdentifiersLongerRow.holds Tryd.pinned (OpenSpec.ofChange fnIdentifiersLongerWrong)

/-- 'laws.FnIdentifiersOrder': WHATEVER THE INPUT: true; the input reads as it did. -/
def fnIdentifiersOrderSpec : ChangeSpec := { name := "fnIdentifiersOrder", fn := fun _ => fun
  | [d1, d2, d3] => { results := [.lit (.bool true)], args := [d1, d2, d3] }
  | _ => none }
def fnIdentifiersOrderRow : OpenClaim := { program := "ytfgechefinijbaadoor", sum := "e19338890c384665df1f98f5d15e60c1220f411a79f30ffd87e2b1cf4e3c1750", func := "pub-seniority/laws.FnIdentifiersOrder", spec := "fnIdentifiersOrder", inPlace := ["math/bits.Add64", "internal/bytealg.abigen_runtime_cmpstring"], unfollowed := true, recurses := true, named := ["pub-seniority/pub/scalibr/semantic.ErrInvalidVersion", "io.EOF", "pub-seniority/pub/bigall.errInvalSep", "pub-seniority/pub/bigall.errNoDigits"], apart := false, laid := [("io.EOF", laid_io_EOF), ("pub-seniority/pub/bigall.errNoDigits", laid_pub_seniority_pub_bigall_errNoDigits), ("pub-seniority/pub/bigall.errInvalSep", laid_pub_seniority_pub_bigall_errInvalSep), ("pub-seniority/pub/scalibr/semantic.ErrInvalidVersion", laid_pub_seniority_pub_scalibr_semantic_ErrInvalidVersion)] }
def FnIdentifiersOrderSaid : Prop := fnIdentifiersOrderRow.holds Tryd.pinned (OpenSpec.ofChange fnIdentifiersOrderSpec)

/-- ITS FALSE NEIGHBOUR: 'it returns false'. Refute it at one input. -/
def fnIdentifiersOrderWrong : ChangeSpec := { name := "fnIdentifiersOrder", fn := fun _ => fun
  | [d1, d2, d3] => { results := [.lit (.bool false)], args := [d1, d2, d3] }
  | _ => none }
def FnIdentifiersOrderWrongFalsely : Prop := fnIdentifiersOrderRow.holds Tryd.pinned (OpenSpec.ofChange fnIdentifiersOrderWrong)

/-- 'laws.FnBuilds': WHATEVER THE INPUT: true; the input reads as it did. -/
def fnBuildsSpec : ChangeSpec := { name := "fnBuilds", fn := fun _ => fun
  | [d1, d2] => { results := [.lit (.bool true)], args := [d1, d2] }
  | _ => none }
def fnBuildsRow : OpenClaim := { program := "ytfgechefinijbaadoor", sum := "e19338890c384665df1f98f5d15e60c1220f411a79f30ffd87e2b1cf4e3c1750", func := "pub-seniority/laws.FnBuilds", spec := "fnBuilds", inPlace := ["math/bits.Add64", "internal/bytealg.abigen_runtime_cmpstring"], unfollowed := true, recurses := true, named := ["pub-seniority/pub/scalibr/semantic.ErrInvalidVersion", "io.EOF", "pub-seniority/pub/bigall.errInvalSep", "pub-seniority/pub/bigall.errNoDigits"], apart := false, laid := [("io.EOF", laid_io_EOF), ("pub-seniority/pub/bigall.errNoDigits", laid_pub_seniority_pub_bigall_errNoDigits), ("pub-seniority/pub/bigall.errInvalSep", laid_pub_seniority_pub_bigall_errInvalSep), ("pub-seniority/pub/scalibr/semantic.ErrInvalidVersion", laid_pub_seniority_pub_scalibr_semantic_ErrInvalidVersion)] }
def FnBuildsSaid : Prop := fnBuildsRow.holds Tryd.pinned (OpenSpec.ofChange fnBuildsSpec)

/-- ITS FALSE NEIGHBOUR: 'it returns false'. Refute it at one input. -/
def fnBuildsWrong : ChangeSpec := { name := "fnBuilds", fn := fun _ => fun
  | [d1, d2] => { results := [.lit (.bool false)], args := [d1, d2] }
  | _ => none }
def FnBuildsWrongFalsely : Prop := fnBuildsRow.holds Tryd.pinned (OpenSpec.ofChange fnBuildsWrong)

/-- 'laws.FnBuildsOrder': WHATEVER THE INPUT: true; the input reads as it did. -/
def fnBuildsOrderSpec : ChangeSpec := { name := "fnBuildsOrder", fn := fun _ => fun
  | [d1, d2, d3] => { results := [.lit (.bool true)], args := [d1, d2, d3] }
  | _ => none }
def fnBuildsOrderRow : OpenClaim := { program := "ytfgechefinijbaadoor", sum := "e19338890c384665df1f98f5d15e60c1220f411a79f30ffd87e2b1cf4e3c1750", func := "pub-seniority/laws.FnBuildsOrder", spec := "fnBuildsOrder", inPlace := ["math/bits.Add64", "internal/bytealg.abigen_runtime_cmpstring"], unfollowed := true, recurses := true, named := ["pub-seniority/pub/scalibr/semantic.ErrInvalidVersion", "io.EOF", "pub-seniority/pub/bigall.errInvalSep", "pub-seniority/pub/bigall.errNoDigits"], apart := false, laid := [("io.EOF", laid_io_EOF), ("pub-seniority/pub/bigall.errNoDigits", laid_pub_seniority_pub_bigall_errNoDigits), ("pub-seniority/pub/bigall.errInvalSep", laid_pub_seniority_pub_bigall_errInvalSep), ("pub-seniority/pub/scalibr/semantic.ErrInvalidVersion", laid_pub_seniority_pub_scalibr_semantic_ErrInvalidVersion)] }
def FnBuildsOrderSaid : Prop := fnBuildsOrderRow.holds Tryd.pinned (OpenSpec.ofChange fnBuildsOrderSpec)

/-- ITS FALSE NEIGHBOUR: 'it returns false'. Refute it at one input. -/
def fnBuildsOrderWrong : ChangeSpec := { name := "fnBuildsOrder", fn := fun _ => fun
  | [d1, d2, d3] => { results := [.lit (.bool false)], args := [d1, d2, d3] }
  | _ => none }
def FnBuildsOrderWrongFalsely : Prop := fnBuildsOrderRow.holds Tryd.pinned (OpenSpec.ofChange fnBuildsOrderWrong)

/- THE SECOND FORM. 'bulk': how many values and letters a reading holds, each counted each time it is reached (what is shared counts as often as it is met; a slice's spare places count too). A statement '..UptoSaid' is the law's where the arguments, and the package variables that the reading takes, are together of bulk at most 1048576: NARROWER than '..Said'. Prove '..Said' where nothing that the law and all that it calls make is longer than what came in: it says more and counts as full. Else prove '..UptoSaid'. A law counts once. -/
mutual
def uptoBulk {H : Type} : DataW H → Nat
  | .lit (.string bytes) => bytes.length + 1
  | .lit _ => 1
  | .nil => 1
  | .ptr d => uptoBulk d + 1
  | .slice elems spare => uptoBulkAll elems + uptoBulkAll spare + 1
  | .agg parts => uptoBulkAll parts + 1
  | .iface _ d => uptoBulk d + 1
  | .map entries => uptoBulkEntries entries + 1
  | .held _ => 1
def uptoBulkAll {H : Type} : List (DataW H) → Nat
  | [] => 0
  | d :: r => uptoBulk d + uptoBulkAll r
def uptoBulkEntries {H : Type} : List (Lit × DataW H) → Nat
  | [] => 0
  | x :: r => uptoBulkEntry x + uptoBulkEntries r
def uptoBulkEntry {H : Type} : Lit × DataW H → Nat
  | (.string bytes, d) => bytes.length + uptoBulk d + 1
  | (_, d) => uptoBulk d + 1
 end
def uptoSmall : (H : Type) → List (DataW H) → Bool := fun _ ds => decide (uptoBulkAll ds ≤ 1048576)
def OpenSpec.upto (s : _root_.Go.ChangeSpec) : _root_.Go.OpenSpec := { _root_.Go.OpenSpec.ofChange s with cond := some uptoSmall }

/-- 'laws.FnNumberZeros', WHERE WHAT IT READS IS OF BULK AT MOST 1048576: true; the input reads as it did. -/
def fnNumberZerosUptoRow : OpenClaim := { program := "ytfgechefinijbaadoor", sum := "e19338890c384665df1f98f5d15e60c1220f411a79f30ffd87e2b1cf4e3c1750", func := "pub-seniority/laws.FnNumberZeros", spec := "fnNumberZeros", inPlace := ["math/bits.Add64"], unfollowed := true, recurses := true, named := ["pub-seniority/pub/scalibr/semantic.ErrInvalidVersion", "io.EOF", "pub-seniority/pub/bigall.errInvalSep", "pub-seniority/pub/bigall.errNoDigits"], apart := false, laid := [("io.EOF", laid_io_EOF), ("pub-seniority/pub/bigall.errNoDigits", laid_pub_seniority_pub_bigall_errNoDigits), ("pub-seniority/pub/bigall.errInvalSep", laid_pub_seniority_pub_bigall_errInvalSep), ("pub-seniority/pub/scalibr/semantic.ErrInvalidVersion", laid_pub_seniority_pub_scalibr_semantic_ErrInvalidVersion)], narrowed := true }
def FnNumberZerosUptoSaid : Prop := fnNumberZerosUptoRow.holds Tryd.pinned (OpenSpec.upto fnNumberZerosSpec)

/-- 'laws.FnRubyGroups', WHERE WHAT IT READS IS OF BULK AT MOST 1048576: true; the input reads as it did. -/
def fnRubyGroupsUptoRow : OpenClaim := { program := "ytfgechefinijbaadoor", sum := "e19338890c384665df1f98f5d15e60c1220f411a79f30ffd87e2b1cf4e3c1750", func := "pub-seniority/laws.FnRubyGroups", spec := "fnRubyGroups", inPlace := ["math/bits.Add64"], unfollowed := true, recurses := true, named := ["pub-seniority/pub/scalibr/semantic.ErrInvalidVersion", "io.EOF", "pub-seniority/pub/bigall.errInvalSep", "pub-seniority/pub/bigall.errNoDigits"], apart := false, laid := [("io.EOF", laid_io_EOF), ("pub-seniority/pub/bigall.errNoDigits", laid_pub_seniority_pub_bigall_errNoDigits), ("pub-seniority/pub/bigall.errInvalSep", laid_pub_seniority_pub_bigall_errInvalSep), ("pub-seniority/pub/scalibr/semantic.ErrInvalidVersion", laid_pub_seniority_pub_scalibr_semantic_ErrInvalidVersion)], narrowed := true }
def FnRubyGroupsUptoSaid : Prop := fnRubyGroupsUptoRow.holds Tryd.pinned (OpenSpec.upto fnRubyGroupsSpec)

/-- 'laws.FnRubySegments', WHERE WHAT IT READS IS OF BULK AT MOST 1048576: true; the input reads as it did. -/
def fnRubySegmentsUptoRow : OpenClaim := { program := "ytfgechefinijbaadoor", sum := "e19338890c384665df1f98f5d15e60c1220f411a79f30ffd87e2b1cf4e3c1750", func := "pub-seniority/laws.FnRubySegments", spec := "fnRubySegments", inPlace := ["math/bits.Add64", "internal/bytealg.abigen_runtime_cmpstring"], unfollowed := true, recurses := true, named := ["pub-seniority/pub/scalibr/semantic.ErrInvalidVersion", "io.EOF", "pub-seniority/pub/bigall.errInvalSep", "pub-seniority/pub/bigall.errNoDigits"], apart := false, laid := [("io.EOF", laid_io_EOF), ("pub-seniority/pub/bigall.errNoDigits", laid_pub_seniority_pub_bigall_errNoDigits), ("pub-seniority/pub/bigall.errInvalSep", laid_pub_seniority_pub_bigall_errInvalSep), ("pub-seniority/pub/scalibr/semantic.ErrInvalidVersion", laid_pub_seniority_pub_scalibr_semantic_ErrInvalidVersion)], narrowed := true }
def FnRubySegmentsUptoSaid : Prop := fnRubySegmentsUptoRow.holds Tryd.pinned (OpenSpec.upto fnRubySegmentsSpec)

/-- 'laws.FnRubySegmentsOrder', WHERE WHAT IT READS IS OF BULK AT MOST 1048576: true; the input reads as it did. -/
def fnRubySegmentsOrderUptoRow : OpenClaim := { program := "ytfgechefinijbaadoor", sum := "e19338890c384665df1f98f5d15e60c1220f411a79f30ffd87e2b1cf4e3c1750", func := "pub-seniority/laws.FnRubySegmentsOrder", spec := "fnRubySegmentsOrder", inPlace := ["math/bits.Add64", "internal/bytealg.abigen_runtime_cmpstring"], unfollowed := true, recurses := true, named := ["pub-seniority/pub/scalibr/semantic.ErrInvalidVersion", "io.EOF", "pub-seniority/pub/bigall.errInvalSep", "pub-seniority/pub/bigall.errNoDigits"], apart := false, laid := [("io.EOF", laid_io_EOF), ("pub-seniority/pub/bigall.errNoDigits", laid_pub_seniority_pub_bigall_errNoDigits), ("pub-seniority/pub/bigall.errInvalSep", laid_pub_seniority_pub_bigall_errInvalSep), ("pub-seniority/pub/scalibr/semantic.ErrInvalidVersion", laid_pub_seniority_pub_scalibr_semantic_ErrInvalidVersion)], narrowed := true }
def FnRubySegmentsOrderUptoSaid : Prop := fnRubySegmentsOrderUptoRow.holds Tryd.pinned (OpenSpec.upto fnRubySegmentsOrderSpec)

/-- 'laws.FnRubyParse', WHERE WHAT IT READS IS OF BULK AT MOST 1048576: true; the input reads as it did. -/
def fnRubyParseUptoRow : OpenClaim := { program := "ytfgechefinijbaadoor", sum := "e19338890c384665df1f98f5d15e60c1220f411a79f30ffd87e2b1cf4e3c1750", func := "pub-seniority/laws.FnRubyParse", spec := "fnRubyParse", inPlace := ["internal/abi.NoEscape", "math/bits.Add64"], unfollowed := true, recurses := true, named := ["pub-seniority/pub/scalibr/semantic.ErrInvalidVersion", "io.EOF", "pub-seniority/pub/bigall.errInvalSep", "pub-seniority/pub/bigall.errNoDigits"], apart := false, laid := [("io.EOF", laid_io_EOF), ("pub-seniority/pub/bigall.errNoDigits", laid_pub_seniority_pub_bigall_errNoDigits), ("pub-seniority/pub/bigall.errInvalSep", laid_pub_seniority_pub_bigall_errInvalSep), ("pub-seniority/pub/scalibr/semantic.ErrInvalidVersion", laid_pub_seniority_pub_scalibr_semantic_ErrInvalidVersion)], narrowed := true }
def FnRubyParseUptoSaid : Prop := fnRubyParseUptoRow.holds Tryd.pinned (OpenSpec.upto fnRubyParseSpec)

/-- 'laws.FnRubyOrder', WHERE WHAT IT READS IS OF BULK AT MOST 1048576: true; the input reads as it did. -/
def fnRubyOrderUptoRow : OpenClaim := { program := "ytfgechefinijbaadoor", sum := "e19338890c384665df1f98f5d15e60c1220f411a79f30ffd87e2b1cf4e3c1750", func := "pub-seniority/laws.FnRubyOrder", spec := "fnRubyOrder", inPlace := ["internal/abi.NoEscape", "math/bits.Add64", "internal/bytealg.abigen_runtime_cmpstring"], unfollowed := true, recurses := true, named := ["pub-seniority/pub/scalibr/semantic.ErrInvalidVersion", "io.EOF", "pub-seniority/pub/bigall.errInvalSep", "pub-seniority/pub/bigall.errNoDigits", "pub-seniority/pub/scalibr/semantic.ErrNotSameEcosystem"], apart := false, laid := [("io.EOF", laid_io_EOF), ("pub-seniority/pub/bigall.errNoDigits", laid_pub_seniority_pub_bigall_errNoDigits), ("pub-seniority/pub/bigall.errInvalSep", laid_pub_seniority_pub_bigall_errInvalSep), ("pub-seniority/pub/scalibr/semantic.ErrInvalidVersion", laid_pub_seniority_pub_scalibr_semantic_ErrInvalidVersion), ("pub-seniority/pub/scalibr/semantic.ErrNotSameEcosystem", laid_pub_seniority_pub_scalibr_semantic_ErrNotSameEcosystem)], narrowed := true }
def FnRubyOrderUptoSaid : Prop := fnRubyOrderUptoRow.holds Tryd.pinned (OpenSpec.upto fnRubyOrderSpec)

/-- 'laws.FnGem', WHERE WHAT IT READS IS OF BULK AT MOST 1048576: true; the input reads as it did. -/
def fnGemUptoRow : OpenClaim := { program := "ytfgechefinijbaadoor", sum := "e19338890c384665df1f98f5d15e60c1220f411a79f30ffd87e2b1cf4e3c1750", func := "pub-seniority/laws.FnGem", spec := "fnGem", inPlace := ["internal/abi.NoEscape", "math/bits.Add64", "internal/bytealg.abigen_runtime_cmpstring"], unfollowed := true, recurses := true, named := ["pub-seniority/pub/scalibr/semantic.ErrInvalidVersion", "io.EOF", "pub-seniority/pub/bigall.errInvalSep", "pub-seniority/pub/bigall.errNoDigits", "pub-seniority/pub/scalibr/semantic.ErrNotSameEcosystem"], apart := false, laid := [("io.EOF", laid_io_EOF), ("pub-seniority/pub/bigall.errNoDigits", laid_pub_seniority_pub_bigall_errNoDigits), ("pub-seniority/pub/bigall.errInvalSep", laid_pub_seniority_pub_bigall_errInvalSep), ("pub-seniority/pub/scalibr/semantic.ErrInvalidVersion", laid_pub_seniority_pub_scalibr_semantic_ErrInvalidVersion), ("pub-seniority/pub/scalibr/semantic.ErrNotSameEcosystem", laid_pub_seniority_pub_scalibr_semantic_ErrNotSameEcosystem)], narrowed := true }
def FnGemUptoSaid : Prop := fnGemUptoRow.holds Tryd.pinned (OpenSpec.upto fnGemSpec)

/-- 'laws.FnIdentifiersLonger', WHERE WHAT IT READS IS OF BULK AT MOST 1048576: true; the input reads as it did. -/
def fnIdentifiersLongerUptoRow : OpenClaim := { program := "ytfgechefinijbaadoor", sum := "e19338890c384665df1f98f5d15e60c1220f411a79f30ffd87e2b1cf4e3c1750", func := "pub-seniority/laws.FnIdentifiersLonger", spec := "fnIdentifiersLonger", inPlace := ["math/bits.Add64", "internal/bytealg.abigen_runtime_cmpstring"], unfollowed := true, recurses := true, named := ["pub-seniority/pub/scalibr/semantic.ErrInvalidVersion", "io.EOF", "pub-seniority/pub/bigall.errInvalSep", "pub-seniority/pub/bigall.errNoDigits"], apart := false, laid := [("io.EOF", laid_io_EOF), ("pub-seniority/pub/bigall.errNoDigits", laid_pub_seniority_pub_bigall_errNoDigits), ("pub-seniority/pub/bigall.errInvalSep", laid_pub_seniority_pub_bigall_errInvalSep), ("pub-seniority/pub/scalibr/semantic.ErrInvalidVersion", laid_pub_seniority_pub_scalibr_semantic_ErrInvalidVersion)], narrowed := true }
def FnIdentifiersLongerUptoSaid : Prop := fnIdentifiersLongerUptoRow.holds Tryd.pinned (OpenSpec.upto fnIdentifiersLongerSpec)

/-- 'laws.FnIdentifiersOrder', WHERE WHAT IT READS IS OF BULK AT MOST 1048576: true; the input reads as it did. -/
def fnIdentifiersOrderUptoRow : OpenClaim := { program := "ytfgechefinijbaadoor", sum := "e19338890c384665df1f98f5d15e60c1220f411a79f30ffd87e2b1cf4e3c1750", func := "pub-seniority/laws.FnIdentifiersOrder", spec := "fnIdentifiersOrder", inPlace := ["math/bits.Add64", "internal/bytealg.abigen_runtime_cmpstring"], unfollowed := true, recurses := true, named := ["pub-seniority/pub/scalibr/semantic.ErrInvalidVersion", "io.EOF", "pub-seniority/pub/bigall.errInvalSep", "pub-seniority/pub/bigall.errNoDigits"], apart := false, laid := [("io.EOF", laid_io_EOF), ("pub-seniority/pub/bigall.errNoDigits", laid_pub_seniority_pub_bigall_errNoDigits), ("pub-seniority/pub/bigall.errInvalSep", laid_pub_seniority_pub_bigall_errInvalSep), ("pub-seniority/pub/scalibr/semantic.ErrInvalidVersion", laid_pub_seniority_pub_scalibr_semantic_ErrInvalidVersion)], narrowed := true }
def FnIdentifiersOrderUptoSaid : Prop := fnIdentifiersOrderUptoRow.holds Tryd.pinned (OpenSpec.upto fnIdentifiersOrderSpec)

/-- 'laws.FnBuilds', WHERE WHAT IT READS IS OF BULK AT MOST 1048576: true; the input reads as it did. -/
def fnBuildsUptoRow : OpenClaim := { program := "ytfgechefinijbaadoor", sum := "e19338890c384665df1f98f5d15e60c1220f411a79f30ffd87e2b1cf4e3c1750", func := "pub-seniority/laws.FnBuilds", spec := "fnBuilds", inPlace := ["math/bits.Add64", "internal/bytealg.abigen_runtime_cmpstring"], unfollowed := true, recurses := true, named := ["pub-seniority/pub/scalibr/semantic.ErrInvalidVersion", "io.EOF", "pub-seniority/pub/bigall.errInvalSep", "pub-seniority/pub/bigall.errNoDigits"], apart := false, laid := [("io.EOF", laid_io_EOF), ("pub-seniority/pub/bigall.errNoDigits", laid_pub_seniority_pub_bigall_errNoDigits), ("pub-seniority/pub/bigall.errInvalSep", laid_pub_seniority_pub_bigall_errInvalSep), ("pub-seniority/pub/scalibr/semantic.ErrInvalidVersion", laid_pub_seniority_pub_scalibr_semantic_ErrInvalidVersion)], narrowed := true }
def FnBuildsUptoSaid : Prop := fnBuildsUptoRow.holds Tryd.pinned (OpenSpec.upto fnBuildsSpec)

/-- 'laws.FnBuildsOrder', WHERE WHAT IT READS IS OF BULK AT MOST 1048576: true; the input reads as it did. -/
def fnBuildsOrderUptoRow : OpenClaim := { program := "ytfgechefinijbaadoor", sum := "e19338890c384665df1f98f5d15e60c1220f411a79f30ffd87e2b1cf4e3c1750", func := "pub-seniority/laws.FnBuildsOrder", spec := "fnBuildsOrder", inPlace := ["math/bits.Add64", "internal/bytealg.abigen_runtime_cmpstring"], unfollowed := true, recurses := true, named := ["pub-seniority/pub/scalibr/semantic.ErrInvalidVersion", "io.EOF", "pub-seniority/pub/bigall.errInvalSep", "pub-seniority/pub/bigall.errNoDigits"], apart := false, laid := [("io.EOF", laid_io_EOF), ("pub-seniority/pub/bigall.errNoDigits", laid_pub_seniority_pub_bigall_errNoDigits), ("pub-seniority/pub/bigall.errInvalSep", laid_pub_seniority_pub_bigall_errInvalSep), ("pub-seniority/pub/scalibr/semantic.ErrInvalidVersion", laid_pub_seniority_pub_scalibr_semantic_ErrInvalidVersion)], narrowed := true }
def FnBuildsOrderUptoSaid : Prop := fnBuildsOrderUptoRow.holds Tryd.pinned (OpenSpec.upto fnBuildsOrderSpec)

end Rows
end Go.Proofs.YtfgechefinijbaaDoor
