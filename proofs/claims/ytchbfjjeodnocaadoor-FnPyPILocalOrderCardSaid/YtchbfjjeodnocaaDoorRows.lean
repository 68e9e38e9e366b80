/-
  NARROWER THAN 'FOR EVERY INPUT', by the rows' own cells (each row's printed sentence says how): FnToken: laid · FnMavenSame: laid · FnMavenQualifiers: laid · FnPyPILocal: laid · FnPyPILocalOrder: laid · FnLetterVersion: laid · FnCRAN: laid · FnCRANMarks: laid · FnCRANZeros: laid · FnPackagistNumbers: laid · FnLikeParse: laid.
  DERIVED. THE GIVEN ROWS OF THIS SEAT. 11 by the template 'for every input the law returns true; each argument reads behind the call as it read before'; 0 by the template 'total and deterministic' (their statements: YtchbfjjeodnocaaDoorTotals.lean).
  GIVEN WITH THE SEED: the statements are not yours to turn. If you find one false, say at which input.
  Laid BY PROGRAM, IN A SANDBOX (cutbox-rows.mjs): the forced cells as the released guide's own fill.sh prints them over the translation 06fee0afe28bf8f9… (all of the seat's roots in one cut). By AI agents, Wed Nov 11 2026. No macro, syntax, notation, axiom, sorry.
-/
import Derived.Test.YtchbfjjeodnocaaDoorChecked
import GoSem.PinnedTables
import GoSem.Claim
import GoSem.ClaimJoined
import GoSem.ClaimMapViews
import Derived.JoinedTies
import Derived.KernelRfl
namespace Go.Proofs.YtchbfjjeodnocaaDoor
/- THE CELL 'sum', in the pinned program and in every row, IS THE sha256 OF THE DUMP (.gsa) THAT YtchbfjjeodnocaaDoorProg.lean LOADS. Nothing in Lean hashes anything: it is a label: what it is worth is what the hold of that sum in a sandbox is worth. -/
noncomputable def Tryd.pinned : Pinned := { name := "ytchbfjjeodnocaadoor", sum := "06fee0afe28bf8f9a304efc604b39d3537850030d932a011dbe192b129c20b29", checked := Tryd.checked }
namespace Rows
def none {H : Type} : Left H := { results := [], args := [] }

/- WHAT THE LISTED PACKAGE-LEVEL VARIABLES READ AS WHEN THE CALL BEGINS. Each datum BY PROGRAM (the guide's laid-datum.mjs) off the statement by which the dump's own 'gosem.cut.vars' lays the variable. In a bare row this is a premise. The card (YtchbfjjeodnocaaDoorCards.lean) ties it to the program's text. -/
def laid_io_EOF {H : Type} : DataW H := .iface "*errors.errorString" (.ptr (.agg [.lit (.string [69, 79, 70])]))
def laid_pub_seniority_pub_bigall_errNoDigits {H : Type} : DataW H := .iface "*errors.errorString" (.ptr (.agg [.lit (.string [110, 117, 109, 98, 101, 114, 32, 104, 97, 115, 32, 110, 111, 32, 100, 105, 103, 105, 116, 115])]))
def laid_pub_seniority_pub_bigall_errInvalSep {H : Type} : DataW H := .iface "*errors.errorString" (.ptr (.agg [.lit (.string [39, 95, 39, 32, 109, 117, 115, 116, 32, 115, 101, 112, 97, 114, 97, 116, 101, 32, 115, 117, 99, 99, 101, 115, 115, 105, 118, 101, 32, 100, 105, 103, 105, 116, 115])]))
def laid_pub_seniority_pub_scalibr_semantic_ErrInvalidVersion {H : Type} : DataW H := .iface "*errors.errorString" (.ptr (.agg [.lit (.string [105, 110, 118, 97, 108, 105, 100, 32, 118, 101, 114, 115, 105, 111, 110])]))
def laid_pub_seniority_pub_scalibr_semantic_keywordOrder {H : Type} : DataW H := .slice [.lit (.string [97, 108, 112, 104, 97]), .lit (.string [98, 101, 116, 97]), .lit (.string [109, 105, 108, 101, 115, 116, 111, 110, 101]), .lit (.string [114, 99]), .lit (.string [115, 110, 97, 112, 115, 104, 111, 116]), .lit (.string []), .lit (.string [115, 112])] []
def laid_unicode_utf8_acceptRanges {H : Type} : DataW H := .agg [.agg [.lit (.int .u8 128), .lit (.int .u8 191)], .agg [.lit (.int .u8 160), .lit (.int .u8 191)], .agg [.lit (.int .u8 128), .lit (.int .u8 159)], .agg [.lit (.int .u8 144), .lit (.int .u8 191)], .agg [.lit (.int .u8 128), .lit (.int .u8 143)], .agg [.lit (.int .u8 0), .lit (.int .u8 0)], .agg [.lit (.int .u8 0), .lit (.int .u8 0)], .agg [.lit (.int .u8 0), .lit (.int .u8 0)], .agg [.lit (.int .u8 0), .lit (.int .u8 0)], .agg [.lit (.int .u8 0), .lit (.int .u8 0)], .agg [.lit (.int .u8 0), .lit (.int .u8 0)], .agg [.lit (.int .u8 0), .lit (.int .u8 0)], .agg [.lit (.int .u8 0), .lit (.int .u8 0)], .agg [.lit (.int .u8 0), .lit (.int .u8 0)], .agg [.lit (.int .u8 0), .lit (.int .u8 0)], .agg [.lit (.int .u8 0), .lit (.int .u8 0)]]
/-- One of Go's own tables, pinned by name: the form's constant. -/
def laid_unicode_CaseRanges : DataW Unit := Go.Pinned.caseRanges
/-- One of Go's own tables, pinned by name: the form's constant. -/
def laid_unicode_utf8_first : DataW Unit := Go.Pinned.utf8First
def laid_pub_seniority_pub_scalibr_semantic_ErrNotSameEcosystem {H : Type} : DataW H := .iface "*errors.errorString" (.ptr (.agg [.lit (.string [118, 101, 114, 115, 105, 111, 110, 32, 105, 115, 32, 110, 111, 116, 32, 111, 102, 32, 116, 104, 101, 32, 115, 97, 109, 101, 32, 101, 99, 111, 115, 121, 115, 116, 101, 109])]))
def laid_math_bits_deBruijn32tab {H : Type} : DataW H := .agg [.lit (.int .u8 0), .lit (.int .u8 1), .lit (.int .u8 28), .lit (.int .u8 2), .lit (.int .u8 29), .lit (.int .u8 14), .lit (.int .u8 24), .lit (.int .u8 3), .lit (.int .u8 30), .lit (.int .u8 22), .lit (.int .u8 20), .lit (.int .u8 15), .lit (.int .u8 25), .lit (.int .u8 17), .lit (.int .u8 4), .lit (.int .u8 8), .lit (.int .u8 31), .lit (.int .u8 27), .lit (.int .u8 13), .lit (.int .u8 23), .lit (.int .u8 21), .lit (.int .u8 19), .lit (.int .u8 16), .lit (.int .u8 7), .lit (.int .u8 26), .lit (.int .u8 12), .lit (.int .u8 18), .lit (.int .u8 6), .lit (.int .u8 11), .lit (.int .u8 5), .lit (.int .u8 10), .lit (.int .u8 9)]
def laid_math_bits_deBruijn64tab {H : Type} : DataW H := .agg [.lit (.int .u8 0), .lit (.int .u8 1), .lit (.int .u8 56), .lit (.int .u8 2), .lit (.int .u8 57), .lit (.int .u8 49), .lit (.int .u8 28), .lit (.int .u8 3), .lit (.int .u8 61), .lit (.int .u8 58), .lit (.int .u8 42), .lit (.int .u8 50), .lit (.int .u8 38), .lit (.int .u8 29), .lit (.int .u8 17), .lit (.int .u8 4), .lit (.int .u8 62), .lit (.int .u8 47), .lit (.int .u8 59), .lit (.int .u8 36), .lit (.int .u8 45), .lit (.int .u8 43), .lit (.int .u8 51), .lit (.int .u8 22), .lit (.int .u8 53), .lit (.int .u8 39), .lit (.int .u8 33), .lit (.int .u8 30), .lit (.int .u8 24), .lit (.int .u8 18), .lit (.int .u8 12), .lit (.int .u8 5), .lit (.int .u8 63), .lit (.int .u8 55), .lit (.int .u8 48), .lit (.int .u8 27), .lit (.int .u8 60), .lit (.int .u8 41), .lit (.int .u8 37), .lit (.int .u8 16), .lit (.int .u8 46), .lit (.int .u8 35), .lit (.int .u8 44), .lit (.int .u8 21), .lit (.int .u8 52), .lit (.int .u8 32), .lit (.int .u8 23), .lit (.int .u8 11), .lit (.int .u8 54), .lit (.int .u8 26), .lit (.int .u8 40), .lit (.int .u8 15), .lit (.int .u8 34), .lit (.int .u8 20), .lit (.int .u8 31), .lit (.int .u8 10), .lit (.int .u8 25), .lit (.int .u8 14), .lit (.int .u8 19), .lit (.int .u8 9), .lit (.int .u8 13), .lit (.int .u8 8), .lit (.int .u8 7), .lit (.int .u8 6)]
def laid_internal_strconv_uint64pow10 {H : Type} : DataW H := .agg [.lit (.int .u64 1), .lit (.int .u64 10), .lit (.int .u64 100), .lit (.int .u64 1000), .lit (.int .u64 10000), .lit (.int .u64 100000), .lit (.int .u64 1000000), .lit (.int .u64 10000000), .lit (.int .u64 100000000), .lit (.int .u64 1000000000), .lit (.int .u64 10000000000), .lit (.int .u64 100000000000), .lit (.int .u64 1000000000000), .lit (.int .u64 10000000000000), .lit (.int .u64 100000000000000), .lit (.int .u64 1000000000000000), .lit (.int .u64 10000000000000000), .lit (.int .u64 100000000000000000), .lit (.int .u64 1000000000000000000), .lit (.int .u64 10000000000000000000)]
def laid_strconv_ErrRange {H : Type} : DataW H := .iface "*errors.errorString" (.ptr (.agg [.lit (.string [118, 97, 108, 117, 101, 32, 111, 117, 116, 32, 111, 102, 32, 114, 97, 110, 103, 101])]))
def laid_strconv_ErrSyntax {H : Type} : DataW H := .iface "*errors.errorString" (.ptr (.agg [.lit (.string [105, 110, 118, 97, 108, 105, 100, 32, 115, 121, 110, 116, 97, 120])]))

/-- 'laws.FnToken': WHATEVER THE INPUT: true; the input reads as it did. -/
def fnTokenSpec : ChangeSpec := { name := "fnToken", fn := fun _ => fun
  | [d] => { results := [.lit (.bool true)], args := [d] }
  | _ => none }
def fnTokenRow : OpenClaim := { program := "ytchbfjjeodnocaadoor", sum := "06fee0afe28bf8f9a304efc604b39d3537850030d932a011dbe192b129c20b29", func := "pub-seniority/laws.FnToken", spec := "fnToken", inPlace := ["math/bits.Add64"], unfollowed := true, recurses := true, named := ["pub-seniority/pub/scalibr/semantic.ErrInvalidVersion", "io.EOF", "pub-seniority/pub/bigall.errInvalSep", "pub-seniority/pub/bigall.errNoDigits"], apart := false, laid := [("io.EOF", laid_io_EOF), ("pub-seniority/pub/bigall.errNoDigits", laid_pub_seniority_pub_bigall_errNoDigits), ("pub-seniority/pub/bigall.errInvalSep", laid_pub_seniority_pub_bigall_errInvalSep), ("pub-seniority/pub/scalibr/semantic.ErrInvalidVersion", laid_pub_seniority_pub_scalibr_semantic_ErrInvalidVersion)] }
def FnTokenSaid : Prop := fnTokenRow.holds Tryd.pinned (OpenSpec.ofChange fnTokenSpec)

/-- ITS FALSE NEIGHBOUR: 'it returns false'. Refute it at one input. -/
def fnTokenWrong : ChangeSpec := { name := "fnToken", fn := fun _ => fun
  | [d] => { results := [.lit (.bool false)], args := [d] }
  | _ => none }
def FnTokenWrongFalsely : Prop := fnTokenRow.holds Tryd.pinned (OpenSpec.ofChange fnTokenWrong)

/-- 'laws.FnMavenSame': WHATEVER THE INPUT: true; the input reads as it did. -/
def fnMavenSameSpec : ChangeSpec := { name := "fnMavenSame", fn := fun _ => fun
  | [d] => { results := [.lit (.bool true)], args := [d] }
  | _ => none }
def fnMavenSameRow : OpenClaim := { program := "ytchbfjjeodnocaadoor", sum := "06fee0afe28bf8f9a304efc604b39d3537850030d932a011dbe192b129c20b29", func := "pub-seniority/laws.FnMavenSame", spec := "fnMavenSame", inPlace := ["math/bits.Add64"], unfollowed := true, recurses := true, named := ["pub-seniority/pub/scalibr/semantic.ErrInvalidVersion", "pub-seniority/pub/scalibr/semantic.keywordOrder", "io.EOF", "pub-seniority/pub/bigall.errInvalSep", "pub-seniority/pub/bigall.errNoDigits"], apart := false, laid := [("io.EOF", laid_io_EOF), ("pub-seniority/pub/bigall.errNoDigits", laid_pub_seniority_pub_bigall_errNoDigits), ("pub-seniority/pub/bigall.errInvalSep", laid_pub_seniority_pub_bigall_errInvalSep), ("pub-seniority/pub/scalibr/semantic.ErrInvalidVersion", laid_pub_seniority_pub_scalibr_semantic_ErrInvalidVersion), ("pub-seniority/pub/scalibr/semantic.keywordOrder", laid_pub_seniority_pub_scalibr_semantic_keywordOrder)] }
def FnMavenSameSaid : Prop := fnMavenSameRow.holds Tryd.pinned (OpenSpec.ofChange fnMavenSameSpec)

/-- ITS FALSE NEIGHBOUR: 'it returns false'. Refute it at one input. -/
def fnMavenSameWrong : ChangeSpec := { name := "fnMavenSame", fn := fun _ => fun
  | [d] => { results := [.lit (.bool false)], args := [d] }
  | _ => none }
def FnMavenSameWrongFalsely : Prop := fnMavenSameRow.holds Tryd.pinned (OpenSpec.ofChange fnMavenSameWrong)

/-- 'laws.FnMavenQualifiers': WHATEVER THE INPUT: true; the input reads as it did. -/
def fnMavenQualifiersSpec : ChangeSpec := { name := "fnMavenQualifiers", fn := fun _ => fun
  | [d1, d2, d3] => { results := [.lit (.bool true)], args := [d1, d2, d3] }
  | _ => none }
def fnMavenQualifiersRow : OpenClaim := { program := "ytchbfjjeodnocaadoor", sum := "06fee0afe28bf8f9a304efc604b39d3537850030d932a011dbe192b129c20b29", func := "pub-seniority/laws.FnMavenQualifiers", spec := "fnMavenQualifiers", inPlace := ["math/bits.Add64"], unfollowed := true, recurses := true, named := ["pub-seniority/pub/scalibr/semantic.ErrInvalidVersion", "pub-seniority/pub/scalibr/semantic.keywordOrder", "io.EOF", "pub-seniority/pub/bigall.errInvalSep", "pub-seniority/pub/bigall.errNoDigits"], apart := false, laid := [("io.EOF", laid_io_EOF), ("pub-seniority/pub/bigall.errNoDigits", laid_pub_seniority_pub_bigall_errNoDigits), ("pub-seniority/pub/bigall.errInvalSep", laid_pub_seniority_pub_bigall_errInvalSep), ("pub-seniority/pub/scalibr/semantic.ErrInvalidVersion", laid_pub_seniority_pub_scalibr_semantic_ErrInvalidVersion), ("pub-seniority/pub/scalibr/semantic.keywordOrder", laid_pub_seniority_pub_scalibr_semantic_keywordOrder)] }
def FnMavenQualifiersSaid : Prop := fnMavenQualifiersRow.holds Tryd.pinned (OpenSpec.ofChange fnMavenQualifiersSpec)

/-- ITS FALSE NEIGHBOUR: 'it returns false'. Refute it at one input. -/
def fnMavenQualifiersWrong : ChangeSpec := { name := "fnMavenQualifiers", fn := fun _ => fun
  | [d1, d2, d3] => { results := [.lit (.bool false)], args := [d1, d2, d3] }
  | _ => none }
def FnMavenQualifiersWrongFalsely : Prop := fnMavenQualifiersRow.holds Tryd.pinned (OpenSpec.ofChange fnMavenQualifiersWrong)

/-- 'laws.FnPyPILocal': WHATEVER THE INPUT: true; the input reads as it did. -/
def fnPyPILocalSpec : ChangeSpec := { name := "fnPyPILocal", fn := fun _ => fun
  | [d1, d2] => { results := [.lit (.bool true)], args := [d1, d2] }
  | _ => none }
def fnPyPILocalRow : OpenClaim := { program := "ytchbfjjeodnocaadoor", sum := "06fee0afe28bf8f9a304efc604b39d3537850030d932a011dbe192b129c20b29", func := "pub-seniority/laws.FnPyPILocal", spec := "fnPyPILocal", inPlace := ["math/bits.Add64", "internal/bytealg.abigen_runtime_cmpstring"], unfollowed := true, recurses := true, named := ["pub-seniority/pub/scalibr/semantic.ErrInvalidVersion", "io.EOF", "pub-seniority/pub/bigall.errInvalSep", "pub-seniority/pub/bigall.errNoDigits"], apart := false, laid := [("io.EOF", laid_io_EOF), ("pub-seniority/pub/bigall.errNoDigits", laid_pub_seniority_pub_bigall_errNoDigits), ("pub-seniority/pub/bigall.errInvalSep", laid_pub_seniority_pub_bigall_errInvalSep), ("pub-seniority/pub/scalibr/semantic.ErrInvalidVersion", laid_pub_seniority_pub_scalibr_semantic_ErrInvalidVersion)] }
def FnPyPILocalSaid : Prop := fnPyPILocalRow.holds Tryd.pinned (OpenSpec.ofChange fnPyPILocalSpec)

/-- ITS FALSE NEIGHBOUR: 'it returns false'. Refute it at one input. -/
def fnPyPILocalWrong : ChangeSpec := { name := "fnPyPILocal", fn := fun _ => fun
  | [d1, d2] => { results := [.lit (.bool false)], args := [d1, d2] }
  | _ => none }
def FnPyPILocalWrongFalsely : Prop := fnPyPILocalRow.holds Tryd.pinned (OpenSpec.ofChange fnPyPILocalWrong)

/-- 'laws.FnPyPILocalOrder': WHATEVER THE INPUT: true; the input reads as it did. -/
def fnPyPILocalOrderSpec : ChangeSpec := { name := "fnPyPILocalOrder", fn := fun _ => fun
  | [d1, d2, d3] => { results := [.lit (.bool true)], args := [d1, d2, d3] }
  | _ => none }
def fnPyPILocalOrderRow : OpenClaim := { program := "ytchbfjjeodnocaadoor", sum := "06fee0afe28bf8f9a304efc604b39d3537850030d932a011dbe192b129c20b29", func := "pub-seniority/laws.FnPyPILocalOrder", spec := "fnPyPILocalOrder", inPlace := ["internal/abi.NoEscape", "internal/bytealg.MakeNoZero", "internal/bytealg.abigen_runtime_cmpstring", "math/bits.Add64"], unfollowed := true, recurses := true, named := ["pub-seniority/pub/scalibr/semantic.ErrInvalidVersion", "io.EOF", "pub-seniority/pub/bigall.errInvalSep", "pub-seniority/pub/bigall.errNoDigits"], apart := false, laid := [("io.EOF", laid_io_EOF), ("pub-seniority/pub/bigall.errNoDigits", laid_pub_seniority_pub_bigall_errNoDigits), ("pub-seniority/pub/bigall.errInvalSep", laid_pub_seniority_pub_bigall_errInvalSep), ("pub-seniority/pub/scalibr/semantic.ErrInvalidVersion", laid_pub_seniority_pub_scalibr_semantic_ErrInvalidVersion)] }
def FnPyPILocalOrderSaid : Prop := fnPyPILocalOrderRow.holds Tryd.pinned (OpenSpec.ofChange fnPyPILocalOrderSpec)

/-- ITS FALSE NEIGHBOUR: 'it returns false'. Refute it at one input. -/
def fnPyPILocalOrderWrong : ChangeSpec := { name := "fnPyPILocalOrder", fn := fun _ => fun
  | [d1, d2, d3] => { results := [.lit (.bool false)], args := [d1, d2, d3] }
  | _ => none }
def FnPyPILocalOrderWrongFalsely : Prop := fnPyPILocalOrderRow.holds Tryd.pinned (OpenSpec.ofChange fnPyPILocalOrderWrong)

/-- 'laws.FnLetterVersion': WHATEVER THE INPUT: true; the input reads as it did. -/
def fnLetterVersionSpec : ChangeSpec := { name := "fnLetterVersion", fn := fun _ => fun
  | [d1, d2] => { results := [.lit (.bool true)], args := [d1, d2] }
  | _ => none }
def fnLetterVersionRow : OpenClaim := { program := "ytchbfjjeodnocaadoor", sum := "06fee0afe28bf8f9a304efc604b39d3537850030d932a011dbe192b129c20b29", func := "pub-seniority/laws.FnLetterVersion", spec := "fnLetterVersion", inPlace := ["internal/abi.NoEscape", "internal/bytealg.MakeNoZero", "math/bits.Add64"], unfollowed := true, recurses := true, named := ["unicode/utf8.first", "unicode/utf8.acceptRanges", "unicode.CaseRanges", "pub-seniority/pub/scalibr/semantic.ErrInvalidVersion", "io.EOF", "pub-seniority/pub/bigall.errInvalSep", "pub-seniority/pub/bigall.errNoDigits"], apart := false, laid := [("unicode/utf8.acceptRanges", laid_unicode_utf8_acceptRanges), ("io.EOF", laid_io_EOF), ("pub-seniority/pub/bigall.errNoDigits", laid_pub_seniority_pub_bigall_errNoDigits), ("pub-seniority/pub/bigall.errInvalSep", laid_pub_seniority_pub_bigall_errInvalSep), ("pub-seniority/pub/scalibr/semantic.ErrInvalidVersion", laid_pub_seniority_pub_scalibr_semantic_ErrInvalidVersion), ("unicode.CaseRanges", laid_unicode_CaseRanges), ("unicode/utf8.first", laid_unicode_utf8_first)] }
def FnLetterVersionSaid : Prop := fnLetterVersionRow.holds Tryd.pinned (OpenSpec.ofChange fnLetterVersionSpec)

/-- ITS FALSE NEIGHBOUR: 'it returns false'. Refute it at one input. -/
def fnLetterVersionWrong : ChangeSpec := { name := "fnLetterVersion", fn := fun _ => fun
  | [d1, d2] => { results := [.lit (.bool false)], args := [d1, d2] }
  | _ => none }
def FnLetterVersionWrongFalsely : Prop := fnLetterVersionRow.holds Tryd.pinned (OpenSpec.ofChange fnLetterVersionWrong)

/-- 'laws.FnCRAN': WHATEVER THE INPUT: true; the input reads as it did. -/
def fnCRANSpec : ChangeSpec := { name := "fnCRAN", fn := fun _ => fun
  | [d1, d2] => { results := [.lit (.bool true)], args := [d1, d2] }
  | _ => none }
def fnCRANRow : OpenClaim := { program := "ytchbfjjeodnocaadoor", sum := "06fee0afe28bf8f9a304efc604b39d3537850030d932a011dbe192b129c20b29", func := "pub-seniority/laws.FnCRAN", spec := "fnCRAN", inPlace := ["math/bits.Add64"], unfollowed := true, recurses := true, named := ["pub-seniority/pub/scalibr/semantic.ErrInvalidVersion", "io.EOF", "pub-seniority/pub/bigall.errInvalSep", "pub-seniority/pub/bigall.errNoDigits", "pub-seniority/pub/scalibr/semantic.ErrNotSameEcosystem"], apart := false, laid := [("io.EOF", laid_io_EOF), ("pub-seniority/pub/bigall.errNoDigits", laid_pub_seniority_pub_bigall_errNoDigits), ("pub-seniority/pub/bigall.errInvalSep", laid_pub_seniority_pub_bigall_errInvalSep), ("pub-seniority/pub/scalibr/semantic.ErrInvalidVersion", laid_pub_seniority_pub_scalibr_semantic_ErrInvalidVersion), ("pub-seniority/pub/scalibr/semantic.ErrNotSameEcosystem", laid_pub_seniority_pub_scalibr_semantic_ErrNotSameEcosystem)] }
def FnCRANSaid : Prop := fnCRANRow.holds Tryd.pinned (OpenSpec.ofChange fnCRANSpec)

/-- ITS FALSE NEIGHBOUR: 'it returns false'. Refute it at one input. -/
def fnCRANWrong : ChangeSpec := { name := "fnCRAN", fn := fun _ => fun
  | [d1, d2] => { results := [.lit (.bool false)], args := [d1, d2] }
  | _ => none }
def FnCRANWrongFalsely : Prop := fnCRANRow.holds Tryd.pinned (OpenSpec.ofChange fnCRANWrong)

/-- 'laws.FnCRANMarks': WHATEVER THE INPUT: true; the input reads as it did. -/
def fnCRANMarksSpec : ChangeSpec := { name := "fnCRANMarks", fn := fun _ => fun
  | [d] => { results := [.lit (.bool true)], args := [d] }
  | _ => none }
def fnCRANMarksRow : OpenClaim := { program := "ytchbfjjeodnocaadoor", sum := "06fee0afe28bf8f9a304efc604b39d3537850030d932a011dbe192b129c20b29", func := "pub-seniority/laws.FnCRANMarks", spec := "fnCRANMarks", inPlace := ["math/bits.Add64"], unfollowed := true, recurses := true, named := ["pub-seniority/pub/scalibr/semantic.ErrInvalidVersion", "io.EOF", "pub-seniority/pub/bigall.errInvalSep", "pub-seniority/pub/bigall.errNoDigits", "pub-seniority/pub/scalibr/semantic.ErrNotSameEcosystem"], apart := false, laid := [("io.EOF", laid_io_EOF), ("pub-seniority/pub/bigall.errNoDigits", laid_pub_seniority_pub_bigall_errNoDigits), ("pub-seniority/pub/bigall.errInvalSep", laid_pub_seniority_pub_bigall_errInvalSep), ("pub-seniority/pub/scalibr/semantic.ErrInvalidVersion", laid_pub_seniority_pub_scalibr_semantic_ErrInvalidVersion), ("pub-seniority/pub/scalibr/semantic.ErrNotSameEcosystem", laid_pub_seniority_pub_scalibr_semantic_ErrNotSameEcosystem)] }
def FnCRANMarksSaid : Prop := fnCRANMarksRow.holds Tryd.pinned (OpenSpec.ofChange fnCRANMarksSpec)

/-- ITS FALSE NEIGHBOUR: 'it returns false'. Refute it at one input. -/
def fnCRANMarksWrong : ChangeSpec := { name := "fnCRANMarks", fn := fun _ => fun
  | [d] => { results := [.lit (.bool false)], args := [d] }
  | _ => none }
def FnCRANMarksWrongFalsely : Prop := fnCRANMarksRow.holds Tryd.pinned (OpenSpec.ofChange fnCRANMarksWrong)

/-- 'laws.FnCRANZeros': WHATEVER THE INPUT: true; the input reads as it did. -/
def fnCRANZerosSpec : ChangeSpec := { name := "fnCRANZeros", fn := fun _ => fun
  | [d] => { results := [.lit (.bool true)], args := [d] }
  | _ => none }
def fnCRANZerosRow : OpenClaim := { program := "ytchbfjjeodnocaadoor", sum := "06fee0afe28bf8f9a304efc604b39d3537850030d932a011dbe192b129c20b29", func := "pub-seniority/laws.FnCRANZeros", spec := "fnCRANZeros", inPlace := ["math/bits.Add64"], unfollowed := true, recurses := true, named := ["pub-seniority/pub/scalibr/semantic.ErrInvalidVersion", "io.EOF", "pub-seniority/pub/bigall.errInvalSep", "pub-seniority/pub/bigall.errNoDigits", "pub-seniority/pub/scalibr/semantic.ErrNotSameEcosystem"], apart := false, laid := [("io.EOF", laid_io_EOF), ("pub-seniority/pub/bigall.errNoDigits", laid_pub_seniority_pub_bigall_errNoDigits), ("pub-seniority/pub/bigall.errInvalSep", laid_pub_seniority_pub_bigall_errInvalSep), ("pub-seniority/pub/scalibr/semantic.ErrInvalidVersion", laid_pub_seniority_pub_scalibr_semantic_ErrInvalidVersion), ("pub-seniority/pub/scalibr/semantic.ErrNotSameEcosystem", laid_pub_seniority_pub_scalibr_semantic_ErrNotSameEcosystem)] }
def FnCRANZerosSaid : Prop := fnCRANZerosRow.holds Tryd.pinned (OpenSpec.ofChange fnCRANZerosSpec)

/-- ITS FALSE NEIGHBOUR: 'it returns false'. Refute it at one input. -/
def fnCRANZerosWrong : ChangeSpec := { name := "fnCRANZeros", fn := fun _ => fun
  | [d] => { results := [.lit (.bool false)], args := [d] }
  | _ => none }
def FnCRANZerosWrongFalsely : Prop := fnCRANZerosRow.holds Tryd.pinned (OpenSpec.ofChange fnCRANZerosWrong)

/-- 'laws.FnPackagistNumbers': WHATEVER THE INPUT: true; the input reads as it did. -/
def fnPackagistNumbersSpec : ChangeSpec := { name := "fnPackagistNumbers", fn := fun _ => fun
  | [d1, d2] => { results := [.lit (.bool true)], args := [d1, d2] }
  | _ => none }
def fnPackagistNumbersRow : OpenClaim := { program := "ytchbfjjeodnocaadoor", sum := "06fee0afe28bf8f9a304efc604b39d3537850030d932a011dbe192b129c20b29", func := "pub-seniority/laws.FnPackagistNumbers", spec := "fnPackagistNumbers", inPlace := ["math/bits.Add64"], unfollowed := true, recurses := true, named := ["pub-seniority/pub/scalibr/semantic.ErrInvalidVersion", "io.EOF", "pub-seniority/pub/bigall.errInvalSep", "pub-seniority/pub/bigall.errNoDigits", "strconv.ErrSyntax", "strconv.ErrRange", "internal/strconv.uint64pow10", "math/bits.deBruijn32tab", "math/bits.deBruijn64tab"], apart := false, laid := [("math/bits.deBruijn32tab", laid_math_bits_deBruijn32tab), ("math/bits.deBruijn64tab", laid_math_bits_deBruijn64tab), ("internal/strconv.uint64pow10", laid_internal_strconv_uint64pow10), ("strconv.ErrRange", laid_strconv_ErrRange), ("strconv.ErrSyntax", laid_strconv_ErrSyntax), ("io.EOF", laid_io_EOF), ("pub-seniority/pub/bigall.errNoDigits", laid_pub_seniority_pub_bigall_errNoDigits), ("pub-seniority/pub/bigall.errInvalSep", laid_pub_seniority_pub_bigall_errInvalSep), ("pub-seniority/pub/scalibr/semantic.ErrInvalidVersion", laid_pub_seniority_pub_scalibr_semantic_ErrInvalidVersion)] }
def FnPackagistNumbersSaid : Prop := fnPackagistNumbersRow.holds Tryd.pinned (OpenSpec.ofChange fnPackagistNumbersSpec)

/-- ITS FALSE NEIGHBOUR: 'it returns false'. Refute it at one input. -/
def fnPackagistNumbersWrong : ChangeSpec := { name := "fnPackagistNumbers", fn := fun _ => fun
  | [d1, d2] => { results := [.lit (.bool false)], args := [d1, d2] }
  | _ => none }
def FnPackagistNumbersWrongFalsely : Prop := fnPackagistNumbersRow.holds Tryd.pinned (OpenSpec.ofChange fnPackagistNumbersWrong)

/-- 'laws.FnLikeParse': WHATEVER THE INPUT: true; the input reads as it did. -/
def fnLikeParseSpec : ChangeSpec := { name := "fnLikeParse", fn := fun _ => fun
  | [d] => { results := [.lit (.bool true)], args := [d] }
  | _ => none }
def fnLikeParseRow : OpenClaim := { program := "ytchbfjjeodnocaadoor", sum := "06fee0afe28bf8f9a304efc604b39d3537850030d932a011dbe192b129c20b29", func := "pub-seniority/laws.FnLikeParse", spec := "fnLikeParse", inPlace := ["math/bits.Add64"], unfollowed := true, recurses := true, named := ["unicode/utf8.first", "unicode/utf8.acceptRanges", "io.EOF", "pub-seniority/pub/bigall.errInvalSep", "pub-seniority/pub/bigall.errNoDigits"], apart := false, laid := [("unicode/utf8.acceptRanges", laid_unicode_utf8_acceptRanges), ("io.EOF", laid_io_EOF), ("pub-seniority/pub/bigall.errNoDigits", laid_pub_seniority_pub_bigall_errNoDigits), ("pub-seniority/pub/bigall.errInvalSep", laid_pub_seniority_pub_bigall_errInvalSep), ("unicode/utf8.first", laid_unicode_utf8_first)] }
def FnLikeParseSaid : Prop := fnLikeParseRow.holds Tryd.pinned (OpenSpec.ofChange fnLikeParseSpec)

/-- ITS FALSE NEIGHBOUR: 'it returns false'. Refute it at one input. -/
def fnLikeParseWrong : ChangeSpec := { name := "fnLikeParse", fn := fun _ => fun
  | [d] => { results := [.lit (.bool false)], args := [d] }
  | _ => none }
def FnLikeParseWrongFalsely : Prop := fnLikeParseRow.holds Tryd.pinned (OpenSpec.ofChange fnLikeParseWrong)

/- THE SECOND FORM. 'bulk': how many values and letters a reading holds, each counted each time it is reached (what is shared counts as often as it is met; a slice's spare places count too). A statement '..UptoSaid' is the law's where the arguments, and the package variables that the reading takes, are together of bulk at most 1048576: NARROWER than '..Said'. Prove '..Said' where nothing that the law and all that it calls make is longer than what came in: it says more and counts as full. Else prove '..UptoSaid'. A law counts once. -/
mutual
def uptoBulk {H : Type} : DataW H → Nat
  | .lit (.string bytes) => bytes.length + 1
  | .lit _ => 1
  | .nil => 1
  | .ptr d => uptoBulk d + 1
  | .slice elems spare => uptoBulkAll elems + uptoBulkAll spare + 1
  | .agg parts => uptoBulkAll parts + 1
  | .iface _ d => uptoBulk d + 1
  | .map entries => uptoBulkEntries entries + 1
  | .held _ => 1
def uptoBulkAll {H : Type} : List (DataW H) → Nat
  | [] => 0
  | d :: r => uptoBulk d + uptoBulkAll r
def uptoBulkEntries {H : Type} : List (Lit × DataW H) → Nat
  | [] => 0
  | x :: r => uptoBulkEntry x + uptoBulkEntries r
def uptoBulkEntry {H : Type} : Lit × DataW H → Nat
  | (.string bytes, d) => bytes.length + uptoBulk d + 1
  | (_, d) => uptoBulk d + 1
 end
def uptoSmall : (H : Type) → List (DataW H) → Bool := fun _ ds => decide (uptoBulkAll ds ≤ 1048576)
def OpenSpec.upto (s : _root_.Go.ChangeSpec) : _root_.Go.OpenSpec := { _root_.Go.OpenSpec.ofChange s with cond := some uptoSmall }

/-- 'laws.FnToken', WHERE WHAT IT READS IS OF BULK AT MOST 1048576: true; the input reads as it did. -/
def fnTokenUptoRow : OpenClaim := { program := "ytchbfjjeodnocaadoor", sum := "06fee0afe28bf8f9a304efc604b39d3537850030d932a011dbe192b129c20b29", func := "pub-seniority/laws.FnToken", spec := "fnToken", inPlace := ["math/bits.Add64"], unfollowed := true, recurses := true, named := ["pub-seniority/pub/scalibr/semantic.ErrInvalidVersion", "io.EOF", "pub-seniority/pub/bigall.errInvalSep", "pub-seniority/pub/bigall.errNoDigits"], apart := false, laid := [("io.EOF", laid_io_EOF), ("pub-seniority/pub/bigall.errNoDigits", laid_pub_seniority_pub_bigall_errNoDigits), ("pub-seniority/pub/bigall.errInvalSep", laid_pub_seniority_pub_bigall_errInvalSep), ("pub-seniority/pub/scalibr/semantic.ErrInvalidVersion", laid_pub_seniority_pub_scalibr_semantic_ErrInvalidVersion)], narrowed := true }
def FnTokenUptoSaid : Prop := fnTokenUptoRow.holds Tryd.pinned (OpenSpec.upto fnTokenSpec)

/-- 'laws.FnMavenSame', WHERE WHAT IT READS IS OF BULK AT MOST 1048576: true; the input reads as it did. -/
def fnMavenSameUptoRow : OpenClaim := { program := "ytchbfjjeodnocaadoor", sum := "06fee0afe28bf8f9a304efc604b39d3537850030d932a011dbe192b129c20b29", func := "pub-seniority/laws.FnMavenSame", spec := "fnMavenSame", inPlace := ["math/bits.Add64"], unfollowed := true, recurses := true, named := ["pub-seniority/pub/scalibr/semantic.ErrInvalidVersion", "pub-seniority/pub/scalibr/semantic.keywordOrder", "io.EOF", "pub-seniority/pub/bigall.errInvalSep", "pub-seniority/pub/bigall.errNoDigits"], apart := false, laid := [("io.EOF", laid_io_EOF), ("pub-seniority/pub/bigall.errNoDigits", laid_pub_seniority_pub_bigall_errNoDigits), ("pub-seniority/pub/bigall.errInvalSep", laid_pub_seniority_pub_bigall_errInvalSep), ("pub-seniority/pub/scalibr/semantic.ErrInvalidVersion", laid_pub_seniority_pub_scalibr_semantic_ErrInvalidVersion), ("pub-seniority/pub/scalibr/semantic.keywordOrder", laid_pub_seniority_pub_scalibr_semantic_keywordOrder)], narrowed := true }
def FnMavenSameUptoSaid : Prop := fnMavenSameUptoRow.holds Tryd.pinned (OpenSpec.upto fnMavenSameSpec)

/-- 'laws.FnMavenQualifiers', WHERE WHAT IT READS IS OF BULK AT MOST 1048576: true; the input reads as it did. -/
def fnMavenQualifiersUptoRow : OpenClaim := { program := "ytchbfjjeodnocaadoor", sum := "06fee0afe28bf8f9a304efc604b39d3537850030d932a011dbe192b129c20b29", func := "pub-seniority/laws.FnMavenQualifiers", spec := "fnMavenQualifiers", inPlace := ["math/bits.Add64"], unfollowed := true, recurses := true, named := ["pub-seniority/pub/scalibr/semantic.ErrInvalidVersion", "pub-seniority/pub/scalibr/semantic.keywordOrder", "io.EOF", "pub-seniority/pub/bigall.errInvalSep", "pub-seniority/pub/bigall.errNoDigits"], apart := false, laid := [("io.EOF", laid_io_EOF), ("pub-seniority/pub/bigall.errNoDigits", laid_pub_seniority_pub_bigall_errNoDigits), ("pub-seniority/pub/bigall.errInvalSep", laid_pub_seniority_pub_bigall_errInvalSep), ("pub-seniority/pub/scalibr/semantic.ErrInvalidVersion", laid_pub_seniority_pub_scalibr_semantic_ErrInvalidVersion), ("pub-seniority/pub/scalibr/semantic.keywordOrder", laid_pub_seniority_pub_scalibr_semantic_keywordOrder)], narrowed := true }
def FnMavenQualifiersUptoSaid : Prop := fnMavenQualifiersUptoRow.holds Tryd.pinned (OpenSpec.upto fnMavenQualifiersSpec)

/-- 'laws.FnPyPILocal', WHERE WHAT IT READS IS OF BULK AT MOST 1048576: true; the input reads as it did. -/
def fnPyPILocalUptoRow : OpenClaim := { program := "ytchbfjjeodnocaadoor", sum := "06fee0afe28bf8f9a304efc604b39d3537850030d932a011dbe192b129c20b29", func := "pub-seniority/laws.FnPyPILocal", spec := "fnPyPILocal", inPlace := ["math/bits.Add64", "internal/bytealg.abigen_runtime_cmpstring"], unfollowed := true, recurses := true, named := ["pub-seniority/pub/scalibr/semantic.ErrInvalidVersion", "io.EOF", "pub-seniority/pub/bigall.errInvalSep", "pub-seniority/pub/bigall.errNoDigits"], apart := false, laid := [("io.EOF", laid_io_EOF), ("pub-seniority/pub/bigall.errNoDigits", laid_pub_seniority_pub_bigall_errNoDigits), ("pub-seniority/pub/bigall.errInvalSep", laid_pub_seniority_pub_bigall_errInvalSep), ("pub-seniority/pub/scalibr/semantic.ErrInvalidVersion", laid_pub_seniority_pub_scalibr_semantic_ErrInvalidVersion)], narrowed := true }
def FnPyPILocalUptoSaid : Prop := fnPyPILocalUptoRow.holds Tryd.pinned (OpenSpec.upto fnPyPILocalSpec)

/-- 'laws.FnPyPILocalOrder', WHERE WHAT IT READS IS OF BULK AT MOST 1048576: true; the input reads as it did. -/
def fnPyPILocalOrderUptoRow : OpenClaim := { program := "ytchbfjjeodnocaadoor", sum := "06fee0afe28bf8f9a304efc604b39d3537850030d932a011dbe192b129c20b29", func := "pub-seniority/laws.FnPyPILocalOrder", spec := "fnPyPILocalOrder", inPlace := ["internal/abi.NoEscape", "internal/bytealg.MakeNoZero", "internal/bytealg.abigen_runtime_cmpstring", "math/bits.Add64"], unfollowed := true, recurses := true, named := ["pub-seniority/pub/scalibr/semantic.ErrInvalidVersion", "io.EOF", "pub-seniority/pub/bigall.errInvalSep", "pub-seniority/pub/bigall.errNoDigits"], apart := false, laid := [("io.EOF", laid_io_EOF), ("pub-seniority/pub/bigall.errNoDigits", laid_pub_seniority_pub_bigall_errNoDigits), ("pub-seniority/pub/bigall.errInvalSep", laid_pub_seniority_pub_bigall_errInvalSep), ("pub-seniority/pub/scalibr/semantic.ErrInvalidVersion", laid_pub_seniority_pub_scalibr_semantic_ErrInvalidVersion)], narrowed := true }
def FnPyPILocalOrderUptoSaid : Prop := fnPyPILocalOrderUptoRow.holds Tryd.pinned (OpenSpec.upto fnPyPILocalOrderSpec)

/-- 'laws.FnLetterVersion', WHERE WHAT IT READS IS OF BULK AT MOST 1048576: true; the input reads as it did. -/
def fnLetterVersionUptoRow : OpenClaim := { program := "ytchbfjjeodnocaadoor", sum := "06fee0afe28bf8f9a304efc604b39d3537850030d932a011dbe192b129c20b29", func := "pub-seniority/laws.FnLetterVersion", spec := "fnLetterVersion", inPlace := ["internal/abi.NoEscape", "internal/bytealg.MakeNoZero", "math/bits.Add64"], unfollowed := true, recurses := true, named := ["unicode/utf8.first", "unicode/utf8.acceptRanges", "unicode.CaseRanges", "pub-seniority/pub/scalibr/semantic.ErrInvalidVersion", "io.EOF", "pub-seniority/pub/bigall.errInvalSep", "pub-seniority/pub/bigall.errNoDigits"], apart := false, laid := [("unicode/utf8.acceptRanges", laid_unicode_utf8_acceptRanges), ("io.EOF", laid_io_EOF), ("pub-seniority/pub/bigall.errNoDigits", laid_pub_seniority_pub_bigall_errNoDigits), ("pub-seniority/pub/bigall.errInvalSep", laid_pub_seniority_pub_bigall_errInvalSep), ("pub-seniority/pub/scalibr/semantic.ErrInvalidVersion", laid_pub_seniority_pub_scalibr_semantic_ErrInvalidVersion), ("unicode.CaseRanges", laid_unicode_CaseRanges), ("unicode/utf8.first", laid_unicode_utf8_first)], narrowed := true }
def FnLetterVersionUptoSaid : Prop := fnLetterVersionUptoRow.holds Tryd.pinned (OpenSpec.upto fnLetterVersionSpec)

/-- 'laws.FnCRAN', WHERE WHAT IT READS IS OF BULK AT MOST 1048576: true; the input reads as it did. -/
def fnCRANUptoRow : OpenClaim := { program := "ytchbfjjeodnocaadoor", sum := "06fee0afe28bf8f9a304efc604b39d3537850030d932a011dbe192b129c20b29", func := "pub-seniority/laws.FnCRAN", spec := "fnCRAN", inPlace := ["math/bits.Add64"], unfollowed := true, recurses := true, named := ["pub-seniority/pub/scalibr/semantic.ErrInvalidVersion", "io.EOF", "pub-seniority/pub/bigall.errInvalSep", "pub-seniority/pub/bigall.errNoDigits", "pub-seniority/pub/scalibr/semantic.ErrNotSameEcosystem"], apart := false, laid := [("io.EOF", laid_io_EOF), ("pub-seniority/pub/bigall.errNoDigits", laid_pub_seniority_pub_bigall_errNoDigits), ("pub-seniority/pub/bigall.errInvalSep", laid_pub_seniority_pub_bigall_errInvalSep), ("pub-seniority/pub/scalibr/semantic.ErrInvalidVersion", laid_pub_seniority_pub_scalibr_semantic_ErrInvalidVersion), ("pub-seniority/pub/scalibr/semantic.ErrNotSameEcosystem", laid_pub_seniority_pub_scalibr_semantic_ErrNotSameEcosystem)], narrowed := true }
def FnCRANUptoSaid : Prop := fnCRANUptoRow.holds Tryd.pinned (OpenSpec.upto fnCRANSpec)

/-- 'laws.FnCRANMarks', WHERE WHAT IT READS IS OF BULK AT MOST 1048576: true; the input reads as it did. -/
def fnCRANMarksUptoRow : OpenClaim := { program := "ytchbfjjeodnocaadoor", sum := "06fee0afe28bf8f9a304efc604b39d3537850030d932a011dbe192b129c20b29", func := "pub-seniority/laws.FnCRANMarks", spec := "fnCRANMarks", inPlace := ["math/bits.Add64"], unfollowed := true, recurses := true, named := ["pub-seniority/pub/scalibr/semantic.ErrInvalidVersion", "io.EOF", "pub-seniority/pub/bigall.errInvalSep", "pub-seniority/pub/bigall.errNoDigits", "pub-seniority/pub/scalibr/semantic.ErrNotSameEcosystem"], apart := false, laid := [("io.EOF", laid_io_EOF), ("pub-seniority/pub/bigall.errNoDigits", laid_pub_seniority_pub_bigall_errNoDigits), ("pub-seniority/pub/bigall.errInvalSep", laid_pub_seniority_pub_bigall_errInvalSep), ("pub-seniority/pub/scalibr/semantic.ErrInvalidVersion", laid_pub_seniority_pub_scalibr_semantic_ErrInvalidVersion), ("pub-seniority/pub/scalibr/semantic.ErrNotSameEcosystem", laid_pub_seniority_pub_scalibr_semantic_ErrNotSameEcosystem)], narrowed := true }
def FnCRANMarksUptoSaid : Prop := fnCRANMarksUptoRow.holds Tryd.pinned (OpenSpec.upto fnCRANMarksSpec)

/-- 'laws.FnCRANZeros', WHERE WHAT IT READS IS OF BULK AT MOST 1048576: true; the input reads as it did. -/
def fnCRANZerosUptoRow : OpenClaim := { program := "ytchbfjjeodnocaadoor", sum := "06fee0afe28bf8f9a304efc604b39d3537850030d932a011dbe192b129c20b29", func := "pub-seniority/laws.FnCRANZeros", spec := "fnCRANZeros", inPlace := ["math/bits.Add64"], unfollowed := true, recurses := true, named := ["pub-seniority/pub/scalibr/semantic.ErrInvalidVersion", "io.EOF", "pub-seniority/pub/bigall.errInvalSep", "pub-seniority/pub/bigall.errNoDigits", "pub-seniority/pub/scalibr/semantic.ErrNotSameEcosystem"], apart := false, laid := [("io.EOF", laid_io_EOF), ("pub-seniority/pub/bigall.errNoDigits", laid_pub_seniority_pub_bigall_errNoDigits), ("pub-seniority/pub/bigall.errInvalSep", laid_pub_seniority_pub_bigall_errInvalSep), ("pub-seniority/pub/scalibr/semantic.ErrInvalidVersion", laid_pub_seniority_pub_scalibr_semantic_ErrInvalidVersion), ("pub-seniority/pub/scalibr/semantic.ErrNotSameEcosystem", laid_pub_seniority_pub_scalibr_semantic_ErrNotSameEcosystem)], narrowed := true }
def FnCRANZerosUptoSaid : Prop := fnCRANZerosUptoRow.holds Tryd.pinned (OpenSpec.upto fnCRANZerosSpec)

/-- 'laws.FnPackagistNumbers', WHERE WHAT IT READS IS OF BULK AT MOST 1048576: true; the input reads as it did. -/
def fnPackagistNumbersUptoRow : OpenClaim := { program := "ytchbfjjeodnocaadoor", sum := "06fee0afe28bf8f9a304efc604b39d3537850030d932a011dbe192b129c20b29", func := "pub-seniority/laws.FnPackagistNumbers", spec := "fnPackagistNumbers", inPlace := ["math/bits.Add64"], unfollowed := true, recurses := true, named := ["pub-seniority/pub/scalibr/semantic.ErrInvalidVersion", "io.EOF", "pub-seniority/pub/bigall.errInvalSep", "pub-seniority/pub/bigall.errNoDigits", "strconv.ErrSyntax", "strconv.ErrRange", "internal/strconv.uint64pow10", "math/bits.deBruijn32tab", "math/bits.deBruijn64tab"], apart := false, laid := [("math/bits.deBruijn32tab", laid_math_bits_deBruijn32tab), ("math/bits.deBruijn64tab", laid_math_bits_deBruijn64tab), ("internal/strconv.uint64pow10", laid_internal_strconv_uint64pow10), ("strconv.ErrRange", laid_strconv_ErrRange), ("strconv.ErrSyntax", laid_strconv_ErrSyntax), ("io.EOF", laid_io_EOF), ("pub-seniority/pub/bigall.errNoDigits", laid_pub_seniority_pub_bigall_errNoDigits), ("pub-seniority/pub/bigall.errInvalSep", laid_pub_seniority_pub_bigall_errInvalSep), ("pub-seniority/pub/scalibr/semantic.ErrInvalidVersion", laid_pub_seniority_pub_scalibr_semantic_ErrInvalidVersion)], narrowed := true }
def FnPackagistNumbersUptoSaid : Prop := fnPackagistNumbersUptoRow.holds Tryd.pinned (OpenSpec.upto fnPackagistNumbersSpec)

/-- 'laws.FnLikeParse', WHERE WHAT IT READS IS OF BULK AT MOST 1048576: true; the input reads as it did. -/
def fnLikeParseUptoRow : OpenClaim := { program := "ytchbfjjeodnocaadoor", sum := "06fee0afe28bf8f9a304efc604b39d3537850030d932a011dbe192b129c20b29", func := "pub-seniority/laws.FnLikeParse", spec := "fnLikeParse", inPlace := ["math/bits.Add64"], unfollowed := true, recurses := true, named := ["unicode/utf8.first", "unicode/utf8.acceptRanges", "io.EOF", "pub-seniority/pub/bigall.errInvalSep", "pub-seniority/pub/bigall.errNoDigits"], apart := false, laid := [("unicode/utf8.acceptRanges", laid_unicode_utf8_acceptRanges), ("io.EOF", laid_io_EOF), ("pub-seniority/pub/bigall.errNoDigits", laid_pub_seniority_pub_bigall_errNoDigits), ("pub-seniority/pub/bigall.errInvalSep", laid_pub_seniority_pub_bigall_errInvalSep), ("unicode/utf8.first", laid_unicode_utf8_first)], narrowed := true }
def FnLikeParseUptoSaid : Prop := fnLikeParseUptoRow.holds Tryd.pinned (OpenSpec.upto fnLikeParseSpec)

end Rows
end Go.Proofs.YtchbfjjeodnocaaDoor
