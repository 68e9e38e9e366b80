/-
  DERIVED. GIVEN WITH THE SEED: THE PROGRAM's TIES (one call each: nine closed facts by the kernel) AND EACH ROW's TIE, after the 31st guide's Derived/Test/Toyas{Tie, Card}.lean. No idea stands in it: it is a product of the set-up. Laid BY PROGRAM, IN A SANDBOX (cutbox-door.mjs). By AI agents, Wed Nov 11 2026. No macro, syntax, notation, axiom, sorry.
-/
import Derived.Test.YtffcbcihnoaikaaDoorRows
import Derived.LaidByTextLater
import Derived.SevenTiedAt
import Derived.LaidSub
import Derived.LaidOnce
namespace Go.Proofs.YtffcbcihnoaikaaDoor
open Go
set_option maxRecDepth 100000
theorem seatTie1 : Tryd.prog.laidByTextLater [("unicode/utf8.acceptRanges", Rows.laid_unicode_utf8_acceptRanges), ("io.EOF", Rows.laid_io_EOF), ("unicode.White_Space", Rows.laid_unicode_White_Space), ("strings.asciiSpace", Rows.laid_strings_asciiSpace), ("pub-seniority/pub/bigall.errNoDigits", Rows.laid_pub_seniority_pub_bigall_errNoDigits), ("pub-seniority/pub/bigall.errInvalSep", Rows.laid_pub_seniority_pub_bigall_errInvalSep), ("pub-seniority/pub/scalibr/semantic.ErrInvalidVersion", Rows.laid_pub_seniority_pub_scalibr_semantic_ErrInvalidVersion), ("pub-seniority/pub/scalibr/semantic.ErrNotSameEcosystem", Rows.laid_pub_seniority_pub_scalibr_semantic_ErrNotSameEcosystem)] [.data, .sentinel, .listed, .data, .sentinel, .sentinel, .sentinel, .sentinel] true :=
  Program.laidByTextLater_by_one 138 8 257 (by kernel_rfl) (by kernel_rfl) (by kernel_rfl) (by kernel_rfl) (by kernel_rfl) (by kernel_rfl) (fun _ _ => by kernel_rfl)
theorem pin_laid_unicode_utf8_first : Tryd.pinned.checked.prog.pinnedFits "unicode/utf8.first" = true := by kernel_rfl
theorem noOwnUnsafe : Tryd.pinned.checked.prog.headLifts.contains "ownunsafe" = false := by kernel_rfl
theorem fits1 : Tryd.pinned.checked.prog.listedFits [("unicode/utf8.acceptRanges", Rows.laid_unicode_utf8_acceptRanges), ("io.EOF", Rows.laid_io_EOF), ("unicode.White_Space", Rows.laid_unicode_White_Space), ("strings.asciiSpace", Rows.laid_strings_asciiSpace), ("pub-seniority/pub/bigall.errNoDigits", Rows.laid_pub_seniority_pub_bigall_errNoDigits), ("pub-seniority/pub/bigall.errInvalSep", Rows.laid_pub_seniority_pub_bigall_errInvalSep), ("pub-seniority/pub/scalibr/semantic.ErrInvalidVersion", Rows.laid_pub_seniority_pub_scalibr_semantic_ErrInvalidVersion), ("unicode/utf8.first", Rows.laid_unicode_utf8_first)] = true := by
  unfold Program.listedFits
  rw [noOwnUnsafe]
  kernel_rfl
theorem tie : Tryd.prog.laidByTextLater [("unicode/utf8.acceptRanges", Rows.laid_unicode_utf8_acceptRanges), ("io.EOF", Rows.laid_io_EOF), ("unicode.White_Space", Rows.laid_unicode_White_Space), ("strings.asciiSpace", Rows.laid_strings_asciiSpace), ("pub-seniority/pub/bigall.errNoDigits", Rows.laid_pub_seniority_pub_bigall_errNoDigits), ("pub-seniority/pub/bigall.errInvalSep", Rows.laid_pub_seniority_pub_bigall_errInvalSep), ("pub-seniority/pub/scalibr/semantic.ErrInvalidVersion", Rows.laid_pub_seniority_pub_scalibr_semantic_ErrInvalidVersion)] [.data, .sentinel, .listed, .data, .sentinel, .sentinel, .sentinel] true :=
  Program.laidByTextLater.sub seatTie1 ["unicode/utf8.acceptRanges", "io.EOF", "unicode.White_Space", "strings.asciiSpace", "pub-seniority/pub/bigall.errNoDigits", "pub-seniority/pub/bigall.errInvalSep", "pub-seniority/pub/scalibr/semantic.ErrInvalidVersion"] (by kernel_rfl) (by kernel_rfl)
theorem fnDebianParse_row_tie : Rows.fnDebianParseRow.laidByTextAt .later Tryd.pinned [.data, .sentinel, .listed, .data, .sentinel, .sentinel, .sentinel, .pinned] true :=
  OpenClaim.laidByTextAt_pinned rfl rfl tie rfl rfl rfl rfl (fun y hy _e => by
    simp only [Rows.fnDebianParseRow, List.zip_cons_cons, List.zip_nil_right, List.mem_cons, List.mem_nil_iff, or_false] at hy
    rcases hy with rfl | rfl | rfl | rfl | rfl | rfl | rfl | rfl
    · cases _e
    · cases _e
    · cases _e
    · cases _e
    · cases _e
    · cases _e
    · cases _e
    · exact ⟨pin_laid_unicode_utf8_first, by kernel_rfl⟩) fits1
theorem fits2 : Tryd.pinned.checked.prog.listedFits [("unicode/utf8.acceptRanges", Rows.laid_unicode_utf8_acceptRanges), ("io.EOF", Rows.laid_io_EOF), ("unicode.White_Space", Rows.laid_unicode_White_Space), ("strings.asciiSpace", Rows.laid_strings_asciiSpace), ("pub-seniority/pub/bigall.errNoDigits", Rows.laid_pub_seniority_pub_bigall_errNoDigits), ("pub-seniority/pub/bigall.errInvalSep", Rows.laid_pub_seniority_pub_bigall_errInvalSep), ("pub-seniority/pub/scalibr/semantic.ErrInvalidVersion", Rows.laid_pub_seniority_pub_scalibr_semantic_ErrInvalidVersion), ("pub-seniority/pub/scalibr/semantic.ErrNotSameEcosystem", Rows.laid_pub_seniority_pub_scalibr_semantic_ErrNotSameEcosystem), ("unicode/utf8.first", Rows.laid_unicode_utf8_first)] = true := by
  unfold Program.listedFits
  rw [noOwnUnsafe]
  kernel_rfl
theorem tie2 : Tryd.prog.laidByTextLater [("unicode/utf8.acceptRanges", Rows.laid_unicode_utf8_acceptRanges), ("io.EOF", Rows.laid_io_EOF), ("unicode.White_Space", Rows.laid_unicode_White_Space), ("strings.asciiSpace", Rows.laid_strings_asciiSpace), ("pub-seniority/pub/bigall.errNoDigits", Rows.laid_pub_seniority_pub_bigall_errNoDigits), ("pub-seniority/pub/bigall.errInvalSep", Rows.laid_pub_seniority_pub_bigall_errInvalSep), ("pub-seniority/pub/scalibr/semantic.ErrInvalidVersion", Rows.laid_pub_seniority_pub_scalibr_semantic_ErrInvalidVersion), ("pub-seniority/pub/scalibr/semantic.ErrNotSameEcosystem", Rows.laid_pub_seniority_pub_scalibr_semantic_ErrNotSameEcosystem)] [.data, .sentinel, .listed, .data, .sentinel, .sentinel, .sentinel, .sentinel] true :=
  Program.laidByTextLater.sub seatTie1 ["unicode/utf8.acceptRanges", "io.EOF", "unicode.White_Space", "strings.asciiSpace", "pub-seniority/pub/bigall.errNoDigits", "pub-seniority/pub/bigall.errInvalSep", "pub-seniority/pub/scalibr/semantic.ErrInvalidVersion", "pub-seniority/pub/scalibr/semantic.ErrNotSameEcosystem"] (by kernel_rfl) (by kernel_rfl)
theorem fnDebianBehind_row_tie : Rows.fnDebianBehindRow.laidByTextAt .later Tryd.pinned [.data, .sentinel, .listed, .data, .sentinel, .sentinel, .sentinel, .sentinel, .pinned] true :=
  OpenClaim.laidByTextAt_pinned rfl rfl tie2 rfl rfl rfl rfl (fun y hy _e => by
    simp only [Rows.fnDebianBehindRow, List.zip_cons_cons, List.zip_nil_right, List.mem_cons, List.mem_nil_iff, or_false] at hy
    rcases hy with rfl | rfl | rfl | rfl | rfl | rfl | rfl | rfl | rfl
    · cases _e
    · cases _e
    · cases _e
    · cases _e
    · cases _e
    · cases _e
    · cases _e
    · cases _e
    · exact ⟨pin_laid_unicode_utf8_first, by kernel_rfl⟩) fits2
theorem fnDebianSorted_row_tie : Rows.fnDebianSortedRow.laidByTextAt .later Tryd.pinned [.data, .sentinel, .listed, .data, .sentinel, .sentinel, .sentinel, .sentinel, .pinned] true :=
  OpenClaim.laidByTextAt_pinned rfl rfl tie2 rfl rfl rfl rfl (fun y hy _e => by
    simp only [Rows.fnDebianSortedRow, List.zip_cons_cons, List.zip_nil_right, List.mem_cons, List.mem_nil_iff, or_false] at hy
    rcases hy with rfl | rfl | rfl | rfl | rfl | rfl | rfl | rfl | rfl
    · cases _e
    · cases _e
    · cases _e
    · cases _e
    · cases _e
    · cases _e
    · cases _e
    · cases _e
    · exact ⟨pin_laid_unicode_utf8_first, by kernel_rfl⟩) fits2
theorem fnDebianZeros_row_tie : Rows.fnDebianZerosRow.laidByTextAt .later Tryd.pinned [.data, .sentinel, .listed, .data, .sentinel, .sentinel, .sentinel, .sentinel, .pinned] true :=
  OpenClaim.laidByTextAt_pinned rfl rfl tie2 rfl rfl rfl rfl (fun y hy _e => by
    simp only [Rows.fnDebianZerosRow, List.zip_cons_cons, List.zip_nil_right, List.mem_cons, List.mem_nil_iff, or_false] at hy
    rcases hy with rfl | rfl | rfl | rfl | rfl | rfl | rfl | rfl | rfl
    · cases _e
    · cases _e
    · cases _e
    · cases _e
    · cases _e
    · cases _e
    · cases _e
    · cases _e
    · exact ⟨pin_laid_unicode_utf8_first, by kernel_rfl⟩) fits2
theorem fnDebianParseUpto_row_tie : Rows.fnDebianParseUptoRow.laidByTextAt .later Tryd.pinned [.data, .sentinel, .listed, .data, .sentinel, .sentinel, .sentinel, .pinned] true :=
  OpenClaim.laidByTextAt_pinned rfl rfl tie rfl rfl rfl rfl (fun y hy _e => by
    simp only [Rows.fnDebianParseUptoRow, List.zip_cons_cons, List.zip_nil_right, List.mem_cons, List.mem_nil_iff, or_false] at hy
    rcases hy with rfl | rfl | rfl | rfl | rfl | rfl | rfl | rfl
    · cases _e
    · cases _e
    · cases _e
    · cases _e
    · cases _e
    · cases _e
    · cases _e
    · exact ⟨pin_laid_unicode_utf8_first, by kernel_rfl⟩) fits1
theorem fnDebianBehindUpto_row_tie : Rows.fnDebianBehindUptoRow.laidByTextAt .later Tryd.pinned [.data, .sentinel, .listed, .data, .sentinel, .sentinel, .sentinel, .sentinel, .pinned] true :=
  OpenClaim.laidByTextAt_pinned rfl rfl tie2 rfl rfl rfl rfl (fun y hy _e => by
    simp only [Rows.fnDebianBehindUptoRow, List.zip_cons_cons, List.zip_nil_right, List.mem_cons, List.mem_nil_iff, or_false] at hy
    rcases hy with rfl | rfl | rfl | rfl | rfl | rfl | rfl | rfl | rfl
    · cases _e
    · cases _e
    · cases _e
    · cases _e
    · cases _e
    · cases _e
    · cases _e
    · cases _e
    · exact ⟨pin_laid_unicode_utf8_first, by kernel_rfl⟩) fits2
theorem fnDebianSortedUpto_row_tie : Rows.fnDebianSortedUptoRow.laidByTextAt .later Tryd.pinned [.data, .sentinel, .listed, .data, .sentinel, .sentinel, .sentinel, .sentinel, .pinned] true :=
  OpenClaim.laidByTextAt_pinned rfl rfl tie2 rfl rfl rfl rfl (fun y hy _e => by
    simp only [Rows.fnDebianSortedUptoRow, List.zip_cons_cons, List.zip_nil_right, List.mem_cons, List.mem_nil_iff, or_false] at hy
    rcases hy with rfl | rfl | rfl | rfl | rfl | rfl | rfl | rfl | rfl
    · cases _e
    · cases _e
    · cases _e
    · cases _e
    · cases _e
    · cases _e
    · cases _e
    · cases _e
    · exact ⟨pin_laid_unicode_utf8_first, by kernel_rfl⟩) fits2
theorem fnDebianZerosUpto_row_tie : Rows.fnDebianZerosUptoRow.laidByTextAt .later Tryd.pinned [.data, .sentinel, .listed, .data, .sentinel, .sentinel, .sentinel, .sentinel, .pinned] true :=
  OpenClaim.laidByTextAt_pinned rfl rfl tie2 rfl rfl rfl rfl (fun y hy _e => by
    simp only [Rows.fnDebianZerosUptoRow, List.zip_cons_cons, List.zip_nil_right, List.mem_cons, List.mem_nil_iff, or_false] at hy
    rcases hy with rfl | rfl | rfl | rfl | rfl | rfl | rfl | rfl | rfl
    · cases _e
    · cases _e
    · cases _e
    · cases _e
    · cases _e
    · cases _e
    · cases _e
    · cases _e
    · exact ⟨pin_laid_unicode_utf8_first, by kernel_rfl⟩) fits2
end Go.Proofs.YtffcbcihnoaikaaDoor
