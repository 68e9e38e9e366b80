/-
  DERIVED. GIVEN WITH THE SEED: THE PROGRAM's TIES (one call each: nine closed facts by the kernel) AND EACH ROW's TIE, after the 31st guide's Derived/Test/Toyas{Tie, Card}.lean. No idea stands in it: it is a product of the set-up. Laid BY PROGRAM, IN A SANDBOX (cutbox-door.mjs). By AI agents, Wed Nov 11 2026. No macro, syntax, notation, axiom, sorry.
-/
import Derived.Test.YtchbfjjeodnocaaDoorRows
import Derived.LaidByTextLater
import Derived.SevenTiedAt
import Derived.LaidSub
import Derived.LaidOnce
namespace Go.Proofs.YtchbfjjeodnocaaDoor
open Go
set_option maxRecDepth 100000
theorem seatTie1 : Tryd.prog.laidByTextLater [("math/bits.deBruijn32tab", Rows.laid_math_bits_deBruijn32tab), ("math/bits.deBruijn64tab", Rows.laid_math_bits_deBruijn64tab), ("internal/strconv.uint64pow10", Rows.laid_internal_strconv_uint64pow10), ("unicode/utf8.acceptRanges", Rows.laid_unicode_utf8_acceptRanges), ("strconv.ErrRange", Rows.laid_strconv_ErrRange), ("strconv.ErrSyntax", Rows.laid_strconv_ErrSyntax), ("io.EOF", Rows.laid_io_EOF), ("pub-seniority/pub/bigall.errNoDigits", Rows.laid_pub_seniority_pub_bigall_errNoDigits), ("pub-seniority/pub/bigall.errInvalSep", Rows.laid_pub_seniority_pub_bigall_errInvalSep), ("pub-seniority/pub/scalibr/semantic.ErrInvalidVersion", Rows.laid_pub_seniority_pub_scalibr_semantic_ErrInvalidVersion), ("pub-seniority/pub/scalibr/semantic.keywordOrder", Rows.laid_pub_seniority_pub_scalibr_semantic_keywordOrder), ("pub-seniority/pub/scalibr/semantic.ErrNotSameEcosystem", Rows.laid_pub_seniority_pub_scalibr_semantic_ErrNotSameEcosystem)] [.data, .data, .data, .data, .sentinel, .sentinel, .sentinel, .sentinel, .sentinel, .sentinel, .data, .sentinel] true :=
  Program.laidByTextLater_by_one 172 8 65 (by kernel_rfl) (by kernel_rfl) (by kernel_rfl) (by kernel_rfl) (by kernel_rfl) (by kernel_rfl) (fun _ _ => by kernel_rfl)
theorem pin_laid_unicode_CaseRanges : Tryd.pinned.checked.prog.pinnedFits "unicode.CaseRanges" = true := by kernel_rfl
theorem pin_laid_unicode_utf8_first : Tryd.pinned.checked.prog.pinnedFits "unicode/utf8.first" = true := by kernel_rfl
theorem noOwnUnsafe : Tryd.pinned.checked.prog.headLifts.contains "ownunsafe" = false := by kernel_rfl
theorem tie : Tryd.prog.laidByTextLater [("io.EOF", Rows.laid_io_EOF), ("pub-seniority/pub/bigall.errNoDigits", Rows.laid_pub_seniority_pub_bigall_errNoDigits), ("pub-seniority/pub/bigall.errInvalSep", Rows.laid_pub_seniority_pub_bigall_errInvalSep), ("pub-seniority/pub/scalibr/semantic.ErrInvalidVersion", Rows.laid_pub_seniority_pub_scalibr_semantic_ErrInvalidVersion)] [.sentinel, .sentinel, .sentinel, .sentinel] true :=
  Program.laidByTextLater.sub seatTie1 ["io.EOF", "pub-seniority/pub/bigall.errNoDigits", "pub-seniority/pub/bigall.errInvalSep", "pub-seniority/pub/scalibr/semantic.ErrInvalidVersion"] (by kernel_rfl) (by kernel_rfl)
theorem fnToken_row_tie : Rows.fnTokenRow.laidByTextAt .later Tryd.pinned [.sentinel, .sentinel, .sentinel, .sentinel] true :=
  OpenClaim.laidByTextAt_later rfl rfl tie noOwnUnsafe
theorem fnPyPILocal_row_tie : Rows.fnPyPILocalRow.laidByTextAt .later Tryd.pinned [.sentinel, .sentinel, .sentinel, .sentinel] true :=
  OpenClaim.laidByTextAt_later rfl rfl tie noOwnUnsafe
theorem fnPyPILocalOrder_row_tie : Rows.fnPyPILocalOrderRow.laidByTextAt .later Tryd.pinned [.sentinel, .sentinel, .sentinel, .sentinel] true :=
  OpenClaim.laidByTextAt_later rfl rfl tie noOwnUnsafe
theorem tie2 : Tryd.prog.laidByTextLater [("io.EOF", Rows.laid_io_EOF), ("pub-seniority/pub/bigall.errNoDigits", Rows.laid_pub_seniority_pub_bigall_errNoDigits), ("pub-seniority/pub/bigall.errInvalSep", Rows.laid_pub_seniority_pub_bigall_errInvalSep), ("pub-seniority/pub/scalibr/semantic.ErrInvalidVersion", Rows.laid_pub_seniority_pub_scalibr_semantic_ErrInvalidVersion), ("pub-seniority/pub/scalibr/semantic.keywordOrder", Rows.laid_pub_seniority_pub_scalibr_semantic_keywordOrder)] [.sentinel, .sentinel, .sentinel, .sentinel, .data] true :=
  Program.laidByTextLater.sub seatTie1 ["io.EOF", "pub-seniority/pub/bigall.errNoDigits", "pub-seniority/pub/bigall.errInvalSep", "pub-seniority/pub/scalibr/semantic.ErrInvalidVersion", "pub-seniority/pub/scalibr/semantic.keywordOrder"] (by kernel_rfl) (by kernel_rfl)
theorem fnMavenSame_row_tie : Rows.fnMavenSameRow.laidByTextAt .later Tryd.pinned [.sentinel, .sentinel, .sentinel, .sentinel, .data] true :=
  OpenClaim.laidByTextAt_later rfl rfl tie2 noOwnUnsafe
theorem fnMavenQualifiers_row_tie : Rows.fnMavenQualifiersRow.laidByTextAt .later Tryd.pinned [.sentinel, .sentinel, .sentinel, .sentinel, .data] true :=
  OpenClaim.laidByTextAt_later rfl rfl tie2 noOwnUnsafe
theorem fits3 : Tryd.pinned.checked.prog.listedFits [("unicode/utf8.acceptRanges", Rows.laid_unicode_utf8_acceptRanges), ("io.EOF", Rows.laid_io_EOF), ("pub-seniority/pub/bigall.errNoDigits", Rows.laid_pub_seniority_pub_bigall_errNoDigits), ("pub-seniority/pub/bigall.errInvalSep", Rows.laid_pub_seniority_pub_bigall_errInvalSep), ("pub-seniority/pub/scalibr/semantic.ErrInvalidVersion", Rows.laid_pub_seniority_pub_scalibr_semantic_ErrInvalidVersion), ("unicode.CaseRanges", Rows.laid_unicode_CaseRanges), ("unicode/utf8.first", Rows.laid_unicode_utf8_first)] = true := by
  unfold Program.listedFits
  rw [noOwnUnsafe]
  kernel_rfl
theorem tie3 : Tryd.prog.laidByTextLater [("unicode/utf8.acceptRanges", Rows.laid_unicode_utf8_acceptRanges), ("io.EOF", Rows.laid_io_EOF), ("pub-seniority/pub/bigall.errNoDigits", Rows.laid_pub_seniority_pub_bigall_errNoDigits), ("pub-seniority/pub/bigall.errInvalSep", Rows.laid_pub_seniority_pub_bigall_errInvalSep), ("pub-seniority/pub/scalibr/semantic.ErrInvalidVersion", Rows.laid_pub_seniority_pub_scalibr_semantic_ErrInvalidVersion)] [.data, .sentinel, .sentinel, .sentinel, .sentinel] true :=
  Program.laidByTextLater.sub seatTie1 ["unicode/utf8.acceptRanges", "io.EOF", "pub-seniority/pub/bigall.errNoDigits", "pub-seniority/pub/bigall.errInvalSep", "pub-seniority/pub/scalibr/semantic.ErrInvalidVersion"] (by kernel_rfl) (by kernel_rfl)
theorem fnLetterVersion_row_tie : Rows.fnLetterVersionRow.laidByTextAt .later Tryd.pinned [.data, .sentinel, .sentinel, .sentinel, .sentinel, .pinned, .pinned] true :=
  OpenClaim.laidByTextAt_pinned rfl rfl tie3 rfl rfl rfl rfl (fun y hy _e => by
    simp only [Rows.fnLetterVersionRow, List.zip_cons_cons, List.zip_nil_right, List.mem_cons, List.mem_nil_iff, or_false] at hy
    rcases hy with rfl | rfl | rfl | rfl | rfl | rfl | rfl
    · cases _e
    · cases _e
    · cases _e
    · cases _e
    · cases _e
    · exact ⟨pin_laid_unicode_CaseRanges, by kernel_rfl⟩
    · exact ⟨pin_laid_unicode_utf8_first, by kernel_rfl⟩) fits3
theorem tie4 : Tryd.prog.laidByTextLater [("io.EOF", Rows.laid_io_EOF), ("pub-seniority/pub/bigall.errNoDigits", Rows.laid_pub_seniority_pub_bigall_errNoDigits), ("pub-seniority/pub/bigall.errInvalSep", Rows.laid_pub_seniority_pub_bigall_errInvalSep), ("pub-seniority/pub/scalibr/semantic.ErrInvalidVersion", Rows.laid_pub_seniority_pub_scalibr_semantic_ErrInvalidVersion), ("pub-seniority/pub/scalibr/semantic.ErrNotSameEcosystem", Rows.laid_pub_seniority_pub_scalibr_semantic_ErrNotSameEcosystem)] [.sentinel, .sentinel, .sentinel, .sentinel, .sentinel] true :=
  Program.laidByTextLater.sub seatTie1 ["io.EOF", "pub-seniority/pub/bigall.errNoDigits", "pub-seniority/pub/bigall.errInvalSep", "pub-seniority/pub/scalibr/semantic.ErrInvalidVersion", "pub-seniority/pub/scalibr/semantic.ErrNotSameEcosystem"] (by kernel_rfl) (by kernel_rfl)
theorem fnCRAN_row_tie : Rows.fnCRANRow.laidByTextAt .later Tryd.pinned [.sentinel, .sentinel, .sentinel, .sentinel, .sentinel] true :=
  OpenClaim.laidByTextAt_later rfl rfl tie4 noOwnUnsafe
theorem fnCRANMarks_row_tie : Rows.fnCRANMarksRow.laidByTextAt .later Tryd.pinned [.sentinel, .sentinel, .sentinel, .sentinel, .sentinel] true :=
  OpenClaim.laidByTextAt_later rfl rfl tie4 noOwnUnsafe
theorem fnCRANZeros_row_tie : Rows.fnCRANZerosRow.laidByTextAt .later Tryd.pinned [.sentinel, .sentinel, .sentinel, .sentinel, .sentinel] true :=
  OpenClaim.laidByTextAt_later rfl rfl tie4 noOwnUnsafe
theorem tie5 : Tryd.prog.laidByTextLater [("math/bits.deBruijn32tab", Rows.laid_math_bits_deBruijn32tab), ("math/bits.deBruijn64tab", Rows.laid_math_bits_deBruijn64tab), ("internal/strconv.uint64pow10", Rows.laid_internal_strconv_uint64pow10), ("strconv.ErrRange", Rows.laid_strconv_ErrRange), ("strconv.ErrSyntax", Rows.laid_strconv_ErrSyntax), ("io.EOF", Rows.laid_io_EOF), ("pub-seniority/pub/bigall.errNoDigits", Rows.laid_pub_seniority_pub_bigall_errNoDigits), ("pub-seniority/pub/bigall.errInvalSep", Rows.laid_pub_seniority_pub_bigall_errInvalSep), ("pub-seniority/pub/scalibr/semantic.ErrInvalidVersion", Rows.laid_pub_seniority_pub_scalibr_semantic_ErrInvalidVersion)] [.data, .data, .data, .sentinel, .sentinel, .sentinel, .sentinel, .sentinel, .sentinel] true :=
  Program.laidByTextLater.sub seatTie1 ["math/bits.deBruijn32tab", "math/bits.deBruijn64tab", "internal/strconv.uint64pow10", "strconv.ErrRange", "strconv.ErrSyntax", "io.EOF", "pub-seniority/pub/bigall.errNoDigits", "pub-seniority/pub/bigall.errInvalSep", "pub-seniority/pub/scalibr/semantic.ErrInvalidVersion"] (by kernel_rfl) (by kernel_rfl)
theorem fnPackagistNumbers_row_tie : Rows.fnPackagistNumbersRow.laidByTextAt .later Tryd.pinned [.data, .data, .data, .sentinel, .sentinel, .sentinel, .sentinel, .sentinel, .sentinel] true :=
  OpenClaim.laidByTextAt_later rfl rfl tie5 noOwnUnsafe
theorem fits6 : Tryd.pinned.checked.prog.listedFits [("unicode/utf8.acceptRanges", Rows.laid_unicode_utf8_acceptRanges), ("io.EOF", Rows.laid_io_EOF), ("pub-seniority/pub/bigall.errNoDigits", Rows.laid_pub_seniority_pub_bigall_errNoDigits), ("pub-seniority/pub/bigall.errInvalSep", Rows.laid_pub_seniority_pub_bigall_errInvalSep), ("unicode/utf8.first", Rows.laid_unicode_utf8_first)] = true := by
  unfold Program.listedFits
  rw [noOwnUnsafe]
  kernel_rfl
theorem tie6 : Tryd.prog.laidByTextLater [("unicode/utf8.acceptRanges", Rows.laid_unicode_utf8_acceptRanges), ("io.EOF", Rows.laid_io_EOF), ("pub-seniority/pub/bigall.errNoDigits", Rows.laid_pub_seniority_pub_bigall_errNoDigits), ("pub-seniority/pub/bigall.errInvalSep", Rows.laid_pub_seniority_pub_bigall_errInvalSep)] [.data, .sentinel, .sentinel, .sentinel] true :=
  Program.laidByTextLater.sub seatTie1 ["unicode/utf8.acceptRanges", "io.EOF", "pub-seniority/pub/bigall.errNoDigits", "pub-seniority/pub/bigall.errInvalSep"] (by kernel_rfl) (by kernel_rfl)
theorem fnLikeParse_row_tie : Rows.fnLikeParseRow.laidByTextAt .later Tryd.pinned [.data, .sentinel, .sentinel, .sentinel, .pinned] true :=
  OpenClaim.laidByTextAt_pinned rfl rfl tie6 rfl rfl rfl rfl (fun y hy _e => by
    simp only [Rows.fnLikeParseRow, List.zip_cons_cons, List.zip_nil_right, List.mem_cons, List.mem_nil_iff, or_false] at hy
    rcases hy with rfl | rfl | rfl | rfl | rfl
    · cases _e
    · cases _e
    · cases _e
    · cases _e
    · exact ⟨pin_laid_unicode_utf8_first, by kernel_rfl⟩) fits6
theorem fnTokenUpto_row_tie : Rows.fnTokenUptoRow.laidByTextAt .later Tryd.pinned [.sentinel, .sentinel, .sentinel, .sentinel] true :=
  OpenClaim.laidByTextAt_later rfl rfl tie noOwnUnsafe
theorem fnMavenSameUpto_row_tie : Rows.fnMavenSameUptoRow.laidByTextAt .later Tryd.pinned [.sentinel, .sentinel, .sentinel, .sentinel, .data] true :=
  OpenClaim.laidByTextAt_later rfl rfl tie2 noOwnUnsafe
theorem fnMavenQualifiersUpto_row_tie : Rows.fnMavenQualifiersUptoRow.laidByTextAt .later Tryd.pinned [.sentinel, .sentinel, .sentinel, .sentinel, .data] true :=
  OpenClaim.laidByTextAt_later rfl rfl tie2 noOwnUnsafe
theorem fnPyPILocalUpto_row_tie : Rows.fnPyPILocalUptoRow.laidByTextAt .later Tryd.pinned [.sentinel, .sentinel, .sentinel, .sentinel] true :=
  OpenClaim.laidByTextAt_later rfl rfl tie noOwnUnsafe
theorem fnPyPILocalOrderUpto_row_tie : Rows.fnPyPILocalOrderUptoRow.laidByTextAt .later Tryd.pinned [.sentinel, .sentinel, .sentinel, .sentinel] true :=
  OpenClaim.laidByTextAt_later rfl rfl tie noOwnUnsafe
theorem fnLetterVersionUpto_row_tie : Rows.fnLetterVersionUptoRow.laidByTextAt .later Tryd.pinned [.data, .sentinel, .sentinel, .sentinel, .sentinel, .pinned, .pinned] true :=
  OpenClaim.laidByTextAt_pinned rfl rfl tie3 rfl rfl rfl rfl (fun y hy _e => by
    simp only [Rows.fnLetterVersionUptoRow, List.zip_cons_cons, List.zip_nil_right, List.mem_cons, List.mem_nil_iff, or_false] at hy
    rcases hy with rfl | rfl | rfl | rfl | rfl | rfl | rfl
    · cases _e
    · cases _e
    · cases _e
    · cases _e
    · cases _e
    · exact ⟨pin_laid_unicode_CaseRanges, by kernel_rfl⟩
    · exact ⟨pin_laid_unicode_utf8_first, by kernel_rfl⟩) fits3
theorem fnCRANUpto_row_tie : Rows.fnCRANUptoRow.laidByTextAt .later Tryd.pinned [.sentinel, .sentinel, .sentinel, .sentinel, .sentinel] true :=
  OpenClaim.laidByTextAt_later rfl rfl tie4 noOwnUnsafe
theorem fnCRANMarksUpto_row_tie : Rows.fnCRANMarksUptoRow.laidByTextAt .later Tryd.pinned [.sentinel, .sentinel, .sentinel, .sentinel, .sentinel] true :=
  OpenClaim.laidByTextAt_later rfl rfl tie4 noOwnUnsafe
theorem fnCRANZerosUpto_row_tie : Rows.fnCRANZerosUptoRow.laidByTextAt .later Tryd.pinned [.sentinel, .sentinel, .sentinel, .sentinel, .sentinel] true :=
  OpenClaim.laidByTextAt_later rfl rfl tie4 noOwnUnsafe
theorem fnPackagistNumbersUpto_row_tie : Rows.fnPackagistNumbersUptoRow.laidByTextAt .later Tryd.pinned [.data, .data, .data, .sentinel, .sentinel, .sentinel, .sentinel, .sentinel, .sentinel] true :=
  OpenClaim.laidByTextAt_later rfl rfl tie5 noOwnUnsafe
theorem fnLikeParseUpto_row_tie : Rows.fnLikeParseUptoRow.laidByTextAt .later Tryd.pinned [.data, .sentinel, .sentinel, .sentinel, .pinned] true :=
  OpenClaim.laidByTextAt_pinned rfl rfl tie6 rfl rfl rfl rfl (fun y hy _e => by
    simp only [Rows.fnLikeParseUptoRow, List.zip_cons_cons, List.zip_nil_right, List.mem_cons, List.mem_nil_iff, or_false] at hy
    rcases hy with rfl | rfl | rfl | rfl | rfl
    · cases _e
    · cases _e
    · cases _e
    · cases _e
    · exact ⟨pin_laid_unicode_utf8_first, by kernel_rfl⟩) fits6
end Go.Proofs.YtchbfjjeodnocaaDoor
