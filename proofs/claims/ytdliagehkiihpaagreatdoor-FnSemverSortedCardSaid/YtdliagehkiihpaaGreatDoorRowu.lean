/- The errors and the tables of utf8, out of the row's condition. -/
import Derived.Test.YtdliagehkiihpaaGreatDoorRowx
import Derived.Test.YtdliagehkiihpaaGreatDoorZT
import Derived.Lib.LaidU8T
namespace Go.Proofs.YtdliagehkiihpaaGreatDoor.Rowx
open Go.ChangeShapes Go.WideShapes Go.ChangeAt Go.RowKit Go.Proofs.YtdliagehkiihpaaGreatDoorW.PrintWords Go.Shelf Go.Lib
set_option linter.unusedVariables false
theorem u8_first : (Rows.laid_unicode_utf8_first : DataW Unit) = firstData := by kernel_rfl
theorem u8_accept : (Rows.laid_unicode_utf8_acceptRanges : DataW Unit) = acceptData := by kernel_rfl
theorem laidU_of {W : World} {l : List (String × DataW Unit)} (h : laidMetH Tryz.prog l W) (hp : (l.all fun x => x.2.handleName?.isNone) = true)
    (h1 : (l.filter fun x => x.1 == "io.EOF") = [("io.EOF", Rows.laid_io_EOF)]) (h2 : (l.filter fun x => x.1 == "pub-seniority/pub/bigall.errNoDigits") = [("pub-seniority/pub/bigall.errNoDigits", Rows.laid_pub_seniority_pub_bigall_errNoDigits)])
    (h3 : (l.filter fun x => x.1 == "pub-seniority/pub/scalibr/semantic.ErrInvalidVersion") = [("pub-seniority/pub/scalibr/semantic.ErrInvalidVersion", Rows.laid_pub_seniority_pub_scalibr_semantic_ErrInvalidVersion)])
    (h4 : (l.filter fun x => x.1 == "unicode/utf8.first") = [("unicode/utf8.first", Rows.laid_unicode_utf8_first)]) (h5 : (l.filter fun x => x.1 == "unicode/utf8.acceptRanges") = [("unicode/utf8.acceptRanges", Rows.laid_unicode_utf8_acceptRanges)]) : Giv.LaidU W := by
  refine ⟨laid_of h hp h1 h2 h3, ?_⟩
  rw [MakeChecks.laidMetH_plain _ _ _ hp] at h
  obtain ⟨ps, hv, _⟩ := h
  have m1 : ("unicode/utf8.first", (Rows.laid_unicode_utf8_first : DataW Unit)) ∈ l := (List.mem_filter.1 (by rw [h4]; exact List.mem_singleton.2 rfl)).1
  have m2 : ("unicode/utf8.acceptRanges", (Rows.laid_unicode_utf8_acceptRanges : DataW Unit)) ∈ l := (List.mem_filter.1 (by rw [h5]; exact List.mem_singleton.2 rfl)).1
  have r1 := LaidVars_reads hv _ _ m1
  have r2 := LaidVars_reads hv _ _ m2
  rw [u8_first] at r1
  rw [u8_accept] at r2
  exact utf8Tabs_of_readsT (U8Types.of196 Tryz.lays196) ⟨by kernel_rfl, by kernel_rfl, by kernel_rfl, by kernel_rfl, by kernel_rfl, by kernel_rfl, by kernel_rfl⟩ r1 r2
end Go.Proofs.YtdliagehkiihpaaGreatDoor.Rowx
