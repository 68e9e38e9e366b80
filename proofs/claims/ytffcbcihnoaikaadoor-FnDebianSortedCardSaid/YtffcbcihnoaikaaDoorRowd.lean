/- The errors and the table of blanks, out of the row's condition. -/
import Derived.Test.YtffcbcihnoaikaaDoorRowx
import Derived.Test.YtffcbcihnoaikaaDoorZV
namespace Go.Proofs.YtffcbcihnoaikaaDoor.Rowx
open Go.ChangeShapes Go.WideShapes Go.ChangeAt Go.RowKit Go.Proofs.YtffcbcihnoaikaaDoorW.PrintWords
set_option linter.unusedVariables false
theorem tab_data : (Rows.laid_strings_asciiSpace : DataW Unit) = Lib.tabData .u8 Lib.asciiSpaceTab := by kernel_rfl
theorem laidD_of {W : World} {l : List (String × DataW Unit)} (h : laidMetH Tryd.prog l W) (hp : (l.all fun x => x.2.handleName?.isNone) = true)
    (h1 : (l.filter fun x => x.1 == "io.EOF") = [("io.EOF", Rows.laid_io_EOF)]) (h2 : (l.filter fun x => x.1 == "pub-seniority/pub/bigall.errNoDigits") = [("pub-seniority/pub/bigall.errNoDigits", Rows.laid_pub_seniority_pub_bigall_errNoDigits)])
    (h3 : (l.filter fun x => x.1 == "pub-seniority/pub/scalibr/semantic.ErrInvalidVersion") = [("pub-seniority/pub/scalibr/semantic.ErrInvalidVersion", Rows.laid_pub_seniority_pub_scalibr_semantic_ErrInvalidVersion)])
    (h4 : (l.filter fun x => x.1 == "strings.asciiSpace") = [("strings.asciiSpace", Rows.laid_strings_asciiSpace)]) : Giv.LaidD W := by
  refine ⟨laid_of h hp h1 h2 h3, ?_⟩
  rw [MakeChecks.laidMetH_plain _ _ _ hp] at h
  have h5 := h.filter (fun x => x.1 == "strings.asciiSpace")
  rw [h4, tab_data] at h5
  exact Lib.tabIs_of_head Giv.asc_tab_name (t := 73) (by kernel_rfl) Tryd.underlying73 Tryd.underlying5 (by kernel_rfl) (by kernel_rfl) h5
end Go.Proofs.YtffcbcihnoaikaaDoor.Rowx
