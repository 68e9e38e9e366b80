/-
  DERIVED. GIVEN WITH THE SEED: THE PROGRAM's TIES (one call each: nine closed facts by the kernel) AND EACH ROW's TIE, after the 31st guide's Derived/Test/Toyas{Tie, Card}.lean. No idea stands in it: it is a product of the set-up. Laid BY PROGRAM, IN A SANDBOX (cutbox-door.mjs). By AI agents, Wed Nov 11 2026. No macro, syntax, notation, axiom, sorry.
-/
import Derived.Test.YtdliagehkiihpaaGreatDoorRows
import Derived.LaidByTextLater
import Derived.SevenTiedAt
import Derived.LaidSub
import Derived.LaidOnce
namespace Go.Proofs.YtdliagehkiihpaaGreatDoor
open Go
set_option maxRecDepth 100000
theorem seatTie1 : Tryz.prog.laidByTextLater [("math/bits.deBruijn32tab", Rows.laid_math_bits_deBruijn32tab), ("math/bits.deBruijn64tab", Rows.laid_math_bits_deBruijn64tab), ("unicode/utf8.acceptRanges", Rows.laid_unicode_utf8_acceptRanges), ("io.EOF", Rows.laid_io_EOF), ("pub-seniority/pub/bigall.errNoDigits", Rows.laid_pub_seniority_pub_bigall_errNoDigits), ("pub-seniority/pub/bigall.errInvalSep", Rows.laid_pub_seniority_pub_bigall_errInvalSep), ("pub-seniority/pub/bigall.leafSize", Rows.laid_pub_seniority_pub_bigall_leafSize), ("pub-seniority/pub/bigall.divRecursiveThreshold", Rows.laid_pub_seniority_pub_bigall_divRecursiveThreshold), ("pub-seniority/pub/bigall.karatsubaThreshold", Rows.laid_pub_seniority_pub_bigall_karatsubaThreshold), ("pub-seniority/pub/bigall.basicSqrThreshold", Rows.laid_pub_seniority_pub_bigall_basicSqrThreshold), ("pub-seniority/pub/bigall.karatsubaSqrThreshold", Rows.laid_pub_seniority_pub_bigall_karatsubaSqrThreshold), ("pub-seniority/pub/scalibr/semantic.ErrInvalidVersion", Rows.laid_pub_seniority_pub_scalibr_semantic_ErrInvalidVersion), ("pub-seniority/pub/scalibr/semantic.ErrNotSameEcosystem", Rows.laid_pub_seniority_pub_scalibr_semantic_ErrNotSameEcosystem)] [.data, .data, .data, .sentinel, .sentinel, .sentinel, .data, .data, .data, .data, .data, .sentinel, .sentinel] true :=
  Program.laidByTextLater_by_one 144 8 65 (by kernel_rfl) (by kernel_rfl) (by kernel_rfl) (by kernel_rfl) (by kernel_rfl) (by kernel_rfl) (fun _ _ => by kernel_rfl)
theorem pin_laid_unicode_utf8_first : Tryz.pinned.checked.prog.pinnedFits "unicode/utf8.first" = true := by kernel_rfl
theorem noOwnUnsafe : Tryz.pinned.checked.prog.headLifts.contains "ownunsafe" = false := by kernel_rfl
theorem tie : Tryz.prog.laidByTextLater [("math/bits.deBruijn32tab", Rows.laid_math_bits_deBruijn32tab), ("math/bits.deBruijn64tab", Rows.laid_math_bits_deBruijn64tab), ("io.EOF", Rows.laid_io_EOF), ("pub-seniority/pub/bigall.errNoDigits", Rows.laid_pub_seniority_pub_bigall_errNoDigits), ("pub-seniority/pub/bigall.errInvalSep", Rows.laid_pub_seniority_pub_bigall_errInvalSep), ("pub-seniority/pub/bigall.leafSize", Rows.laid_pub_seniority_pub_bigall_leafSize), ("pub-seniority/pub/bigall.divRecursiveThreshold", Rows.laid_pub_seniority_pub_bigall_divRecursiveThreshold), ("pub-seniority/pub/bigall.karatsubaThreshold", Rows.laid_pub_seniority_pub_bigall_karatsubaThreshold), ("pub-seniority/pub/bigall.basicSqrThreshold", Rows.laid_pub_seniority_pub_bigall_basicSqrThreshold), ("pub-seniority/pub/bigall.karatsubaSqrThreshold", Rows.laid_pub_seniority_pub_bigall_karatsubaSqrThreshold), ("pub-seniority/pub/scalibr/semantic.ErrInvalidVersion", Rows.laid_pub_seniority_pub_scalibr_semantic_ErrInvalidVersion)] [.data, .data, .sentinel, .sentinel, .sentinel, .data, .data, .data, .data, .data, .sentinel] true :=
  Program.laidByTextLater.sub seatTie1 ["math/bits.deBruijn32tab", "math/bits.deBruijn64tab", "io.EOF", "pub-seniority/pub/bigall.errNoDigits", "pub-seniority/pub/bigall.errInvalSep", "pub-seniority/pub/bigall.leafSize", "pub-seniority/pub/bigall.divRecursiveThreshold", "pub-seniority/pub/bigall.karatsubaThreshold", "pub-seniority/pub/bigall.basicSqrThreshold", "pub-seniority/pub/bigall.karatsubaSqrThreshold", "pub-seniority/pub/scalibr/semantic.ErrInvalidVersion"] (by kernel_rfl) (by kernel_rfl)
theorem fnSemverPre_row_tie : Rows.fnSemverPreRow.laidByTextAt .later Tryz.pinned [.data, .data, .sentinel, .sentinel, .sentinel, .data, .data, .data, .data, .data, .sentinel] true :=
  OpenClaim.laidByTextAt_later rfl rfl tie noOwnUnsafe
theorem fnPubPage_row_tie : Rows.fnPubPageRow.laidByTextAt .later Tryz.pinned [.data, .data, .sentinel, .sentinel, .sentinel, .data, .data, .data, .data, .data, .sentinel] true :=
  OpenClaim.laidByTextAt_later rfl rfl tie noOwnUnsafe
theorem fits2 : Tryz.pinned.checked.prog.listedFits [("math/bits.deBruijn32tab", Rows.laid_math_bits_deBruijn32tab), ("math/bits.deBruijn64tab", Rows.laid_math_bits_deBruijn64tab), ("unicode/utf8.acceptRanges", Rows.laid_unicode_utf8_acceptRanges), ("io.EOF", Rows.laid_io_EOF), ("pub-seniority/pub/bigall.errNoDigits", Rows.laid_pub_seniority_pub_bigall_errNoDigits), ("pub-seniority/pub/bigall.errInvalSep", Rows.laid_pub_seniority_pub_bigall_errInvalSep), ("pub-seniority/pub/bigall.leafSize", Rows.laid_pub_seniority_pub_bigall_leafSize), ("pub-seniority/pub/bigall.divRecursiveThreshold", Rows.laid_pub_seniority_pub_bigall_divRecursiveThreshold), ("pub-seniority/pub/bigall.karatsubaThreshold", Rows.laid_pub_seniority_pub_bigall_karatsubaThreshold), ("pub-seniority/pub/bigall.basicSqrThreshold", Rows.laid_pub_seniority_pub_bigall_basicSqrThreshold), ("pub-seniority/pub/bigall.karatsubaSqrThreshold", Rows.laid_pub_seniority_pub_bigall_karatsubaSqrThreshold), ("pub-seniority/pub/scalibr/semantic.ErrInvalidVersion", Rows.laid_pub_seniority_pub_scalibr_semantic_ErrInvalidVersion), ("unicode/utf8.first", Rows.laid_unicode_utf8_first)] = true := by
  unfold Program.listedFits
  rw [noOwnUnsafe]
  kernel_rfl
theorem tie2 : Tryz.prog.laidByTextLater [("math/bits.deBruijn32tab", Rows.laid_math_bits_deBruijn32tab), ("math/bits.deBruijn64tab", Rows.laid_math_bits_deBruijn64tab), ("unicode/utf8.acceptRanges", Rows.laid_unicode_utf8_acceptRanges), ("io.EOF", Rows.laid_io_EOF), ("pub-seniority/pub/bigall.errNoDigits", Rows.laid_pub_seniority_pub_bigall_errNoDigits), ("pub-seniority/pub/bigall.errInvalSep", Rows.laid_pub_seniority_pub_bigall_errInvalSep), ("pub-seniority/pub/bigall.leafSize", Rows.laid_pub_seniority_pub_bigall_leafSize), ("pub-seniority/pub/bigall.divRecursiveThreshold", Rows.laid_pub_seniority_pub_bigall_divRecursiveThreshold), ("pub-seniority/pub/bigall.karatsubaThreshold", Rows.laid_pub_seniority_pub_bigall_karatsubaThreshold), ("pub-seniority/pub/bigall.basicSqrThreshold", Rows.laid_pub_seniority_pub_bigall_basicSqrThreshold), ("pub-seniority/pub/bigall.karatsubaSqrThreshold", Rows.laid_pub_seniority_pub_bigall_karatsubaSqrThreshold), ("pub-seniority/pub/scalibr/semantic.ErrInvalidVersion", Rows.laid_pub_seniority_pub_scalibr_semantic_ErrInvalidVersion)] [.data, .data, .data, .sentinel, .sentinel, .sentinel, .data, .data, .data, .data, .data, .sentinel] true :=
  Program.laidByTextLater.sub seatTie1 ["math/bits.deBruijn32tab", "math/bits.deBruijn64tab", "unicode/utf8.acceptRanges", "io.EOF", "pub-seniority/pub/bigall.errNoDigits", "pub-seniority/pub/bigall.errInvalSep", "pub-seniority/pub/bigall.leafSize", "pub-seniority/pub/bigall.divRecursiveThreshold", "pub-seniority/pub/bigall.karatsubaThreshold", "pub-seniority/pub/bigall.basicSqrThreshold", "pub-seniority/pub/bigall.karatsubaSqrThreshold", "pub-seniority/pub/scalibr/semantic.ErrInvalidVersion"] (by kernel_rfl) (by kernel_rfl)
theorem fnSemverSorted_row_tie : Rows.fnSemverSortedRow.laidByTextAt .later Tryz.pinned [.data, .data, .data, .sentinel, .sentinel, .sentinel, .data, .data, .data, .data, .data, .sentinel, .pinned] true :=
  OpenClaim.laidByTextAt_pinned rfl rfl tie2 rfl rfl rfl rfl (fun y hy _e => by
    simp only [Rows.fnSemverSortedRow, List.zip_cons_cons, List.zip_nil_right, List.mem_cons, List.mem_nil_iff, or_false] at hy
    rcases hy with rfl | rfl | rfl | rfl | rfl | rfl | rfl | rfl | rfl | rfl | rfl | rfl | rfl
    · cases _e
    · cases _e
    · cases _e
    · cases _e
    · cases _e
    · cases _e
    · cases _e
    · cases _e
    · cases _e
    · cases _e
    · cases _e
    · cases _e
    · exact ⟨pin_laid_unicode_utf8_first, by kernel_rfl⟩) fits2
theorem tie3 : Tryz.prog.laidByTextLater [("math/bits.deBruijn32tab", Rows.laid_math_bits_deBruijn32tab), ("math/bits.deBruijn64tab", Rows.laid_math_bits_deBruijn64tab), ("io.EOF", Rows.laid_io_EOF), ("pub-seniority/pub/bigall.errNoDigits", Rows.laid_pub_seniority_pub_bigall_errNoDigits), ("pub-seniority/pub/bigall.errInvalSep", Rows.laid_pub_seniority_pub_bigall_errInvalSep), ("pub-seniority/pub/bigall.leafSize", Rows.laid_pub_seniority_pub_bigall_leafSize), ("pub-seniority/pub/bigall.divRecursiveThreshold", Rows.laid_pub_seniority_pub_bigall_divRecursiveThreshold), ("pub-seniority/pub/bigall.karatsubaThreshold", Rows.laid_pub_seniority_pub_bigall_karatsubaThreshold), ("pub-seniority/pub/bigall.basicSqrThreshold", Rows.laid_pub_seniority_pub_bigall_basicSqrThreshold), ("pub-seniority/pub/bigall.karatsubaSqrThreshold", Rows.laid_pub_seniority_pub_bigall_karatsubaSqrThreshold), ("pub-seniority/pub/scalibr/semantic.ErrInvalidVersion", Rows.laid_pub_seniority_pub_scalibr_semantic_ErrInvalidVersion), ("pub-seniority/pub/scalibr/semantic.ErrNotSameEcosystem", Rows.laid_pub_seniority_pub_scalibr_semantic_ErrNotSameEcosystem)] [.data, .data, .sentinel, .sentinel, .sentinel, .data, .data, .data, .data, .data, .sentinel, .sentinel] true :=
  Program.laidByTextLater.sub seatTie1 ["math/bits.deBruijn32tab", "math/bits.deBruijn64tab", "io.EOF", "pub-seniority/pub/bigall.errNoDigits", "pub-seniority/pub/bigall.errInvalSep", "pub-seniority/pub/bigall.leafSize", "pub-seniority/pub/bigall.divRecursiveThreshold", "pub-seniority/pub/bigall.karatsubaThreshold", "pub-seniority/pub/bigall.basicSqrThreshold", "pub-seniority/pub/bigall.karatsubaSqrThreshold", "pub-seniority/pub/scalibr/semantic.ErrInvalidVersion", "pub-seniority/pub/scalibr/semantic.ErrNotSameEcosystem"] (by kernel_rfl) (by kernel_rfl)
theorem fnSemverPage_row_tie : Rows.fnSemverPageRow.laidByTextAt .later Tryz.pinned [.data, .data, .sentinel, .sentinel, .sentinel, .data, .data, .data, .data, .data, .sentinel, .sentinel] true :=
  OpenClaim.laidByTextAt_later rfl rfl tie3 noOwnUnsafe
theorem fnSemverPreUpto_row_tie : Rows.fnSemverPreUptoRow.laidByTextAt .later Tryz.pinned [.data, .data, .sentinel, .sentinel, .sentinel, .data, .data, .data, .data, .data, .sentinel] true :=
  OpenClaim.laidByTextAt_later rfl rfl tie noOwnUnsafe
theorem fnPubPageUpto_row_tie : Rows.fnPubPageUptoRow.laidByTextAt .later Tryz.pinned [.data, .data, .sentinel, .sentinel, .sentinel, .data, .data, .data, .data, .data, .sentinel] true :=
  OpenClaim.laidByTextAt_later rfl rfl tie noOwnUnsafe
theorem fnSemverSortedUpto_row_tie : Rows.fnSemverSortedUptoRow.laidByTextAt .later Tryz.pinned [.data, .data, .data, .sentinel, .sentinel, .sentinel, .data, .data, .data, .data, .data, .sentinel, .pinned] true :=
  OpenClaim.laidByTextAt_pinned rfl rfl tie2 rfl rfl rfl rfl (fun y hy _e => by
    simp only [Rows.fnSemverSortedUptoRow, List.zip_cons_cons, List.zip_nil_right, List.mem_cons, List.mem_nil_iff, or_false] at hy
    rcases hy with rfl | rfl | rfl | rfl | rfl | rfl | rfl | rfl | rfl | rfl | rfl | rfl | rfl
    · cases _e
    · cases _e
    · cases _e
    · cases _e
    · cases _e
    · cases _e
    · cases _e
    · cases _e
    · cases _e
    · cases _e
    · cases _e
    · cases _e
    · exact ⟨pin_laid_unicode_utf8_first, by kernel_rfl⟩) fits2
theorem fnSemverPageUpto_row_tie : Rows.fnSemverPageUptoRow.laidByTextAt .later Tryz.pinned [.data, .data, .sentinel, .sentinel, .sentinel, .data, .data, .data, .data, .data, .sentinel, .sentinel] true :=
  OpenClaim.laidByTextAt_later rfl rfl tie3 noOwnUnsafe
end Go.Proofs.YtdliagehkiihpaaGreatDoor
