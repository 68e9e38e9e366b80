/-
  DERIVED. GIVEN WITH THE SEED: THE PROGRAM's TIES (one call each: nine closed facts by the kernel) AND EACH ROW's TIE, after the 31st guide's Derived/Test/Toyas{Tie, Card}.lean. No idea stands in it: it is a product of the set-up. Laid BY PROGRAM, IN A SANDBOX (cutbox-door.mjs). By AI agents, Wed Nov 11 2026. No macro, syntax, notation, axiom, sorry.
-/
import Derived.Test.YtkecmlpihnjjgaaDoorRows
import Derived.LaidByTextLater
import Derived.SevenTiedAt
import Derived.LaidSub
import Derived.LaidOnce
namespace Go.Proofs.YtkecmlpihnjjgaaDoor
open Go
set_option maxRecDepth 100000
theorem seatTie1 : Tryd.prog.laidByTextLater [("io.EOF", Rows.laid_io_EOF), ("pub-seniority/pub/bigall.errNoDigits", Rows.laid_pub_seniority_pub_bigall_errNoDigits), ("pub-seniority/pub/bigall.errInvalSep", Rows.laid_pub_seniority_pub_bigall_errInvalSep), ("pub-seniority/pub/scalibr/semantic.ErrInvalidVersion", Rows.laid_pub_seniority_pub_scalibr_semantic_ErrInvalidVersion), ("pub-seniority/pub/scalibr/semantic.keywordOrder", Rows.laid_pub_seniority_pub_scalibr_semantic_keywordOrder)] [.sentinel, .sentinel, .sentinel, .sentinel, .data] true :=
  Program.laidByTextLater_by_one 90 8 8 (by kernel_rfl) (by kernel_rfl) (by kernel_rfl) (by kernel_rfl) (by kernel_rfl) (by kernel_rfl) (fun _ _ => by kernel_rfl)
theorem noOwnUnsafe : Tryd.pinned.checked.prog.headLifts.contains "ownunsafe" = false := by kernel_rfl
theorem tie : Tryd.prog.laidByTextLater [("io.EOF", Rows.laid_io_EOF), ("pub-seniority/pub/bigall.errNoDigits", Rows.laid_pub_seniority_pub_bigall_errNoDigits), ("pub-seniority/pub/bigall.errInvalSep", Rows.laid_pub_seniority_pub_bigall_errInvalSep), ("pub-seniority/pub/scalibr/semantic.ErrInvalidVersion", Rows.laid_pub_seniority_pub_scalibr_semantic_ErrInvalidVersion), ("pub-seniority/pub/scalibr/semantic.keywordOrder", Rows.laid_pub_seniority_pub_scalibr_semantic_keywordOrder)] [.sentinel, .sentinel, .sentinel, .sentinel, .data] true :=
  Program.laidByTextLater.sub seatTie1 ["io.EOF", "pub-seniority/pub/bigall.errNoDigits", "pub-seniority/pub/bigall.errInvalSep", "pub-seniority/pub/scalibr/semantic.ErrInvalidVersion", "pub-seniority/pub/scalibr/semantic.keywordOrder"] (by kernel_rfl) (by kernel_rfl)
theorem fnMavenSame_row_tie : Rows.fnMavenSameRow.laidByTextAt .later Tryd.pinned [.sentinel, .sentinel, .sentinel, .sentinel, .data] true :=
  OpenClaim.laidByTextAt_later rfl rfl tie noOwnUnsafe
theorem fnMavenQualifiers_row_tie : Rows.fnMavenQualifiersRow.laidByTextAt .later Tryd.pinned [.sentinel, .sentinel, .sentinel, .sentinel, .data] true :=
  OpenClaim.laidByTextAt_later rfl rfl tie noOwnUnsafe
theorem fnMavenSameUpto_row_tie : Rows.fnMavenSameUptoRow.laidByTextAt .later Tryd.pinned [.sentinel, .sentinel, .sentinel, .sentinel, .data] true :=
  OpenClaim.laidByTextAt_later rfl rfl tie noOwnUnsafe
theorem fnMavenQualifiersUpto_row_tie : Rows.fnMavenQualifiersUptoRow.laidByTextAt .later Tryd.pinned [.sentinel, .sentinel, .sentinel, .sentinel, .data] true :=
  OpenClaim.laidByTextAt_later rfl rfl tie noOwnUnsafe
end Go.Proofs.YtkecmlpihnjjgaaDoor
