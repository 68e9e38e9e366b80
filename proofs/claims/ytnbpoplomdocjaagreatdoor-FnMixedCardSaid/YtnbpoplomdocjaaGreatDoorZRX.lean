/- Several texts of this claim in one. Put together by wip/tool/merge.py. -/
import Derived.Test.YtnbpoplomdocjaaGreatDoorZC
import Derived.Test.YtnbpoplomdocjaaGreatDoorRows
import Derived.SliceStrings
import Derived.WalkKit
import Derived.ProofKit
import Derived.Below
import Derived.SizedLaws
import Derived.OpenShut
import Derived.ShutString
import Derived.ChangeOld
import Derived.LaidMore
import Derived.LaidSub
import Derived.Stop.LaidErr
import Derived.Stop.Joined
import Derived.MakeChecks
import Derived.Test.YtnbpoplomdocjaaGreatDoorZMX
import Derived.Lib.LaidU8T
/- What the rows of the statements over texts and lists of texts have in common: the arguments read, the errors laid. -/
namespace Go.Proofs.YtnbpoplomdocjaaGreatDoor.Rowx
open Go.ChangeShapes Go.WideShapes Go.ChangeAt Go.RowKit Go.Proofs.YtnbpoplomdocjaaGreatDoorW.PrintWords
set_option linter.unusedVariables false

theorem errRow (u : TypeId) (h : Tryz.prog.typeName? 3 u = some "*errors.errorString") : u = 207 :=
  typeName_ptr_named (nm := "errors.errorString") (by kernel_rfl) (by kernel_rfl) (by decide) u h
/-- A listed error's cell. -/
theorem laid_cell {W : World} {l : List (String × DataW Unit)} (h : laidMet Tryz.prog l W) (n : String) (g : Nat) (text : List UInt8) (hm : (l.filter fun x => x.1 == n) = [(n, .iface "*errors.errorString" (.ptr (.agg [.lit (.string text)])))])
    (hg : Tryz.prog.globalNamed n = some g) (ht : (Tryz.prog.globals[g]?).map (·.type) = some 33) : ∃ a, W.cell? ⟨g, 0, none⟩ = some (Giv.errv a) := by
  have h1 := h.filter (fun x => x.1 == n)
  rw [hm] at h1
  obtain ⟨a, s, hv, _⟩ := laid_sentinel h1 hg ht Tryz.underlying33 errRow Tryz.underlying207 Tryz.underlying222 rfl rfl Tryz.underlying9 (by kernel_rfl) (by kernel_rfl)
  refine ⟨a, ?_⟩
  rw [World.var?_cell hg hv 0]
  rfl
theorem laid_of {W : World} {l : List (String × DataW Unit)} (h : laidMetH Tryz.prog l W) (hp : (l.all fun x => x.2.handleName?.isNone) = true)
    (h1 : (l.filter fun x => x.1 == "io.EOF") = [("io.EOF", Rows.laid_io_EOF)]) (h2 : (l.filter fun x => x.1 == "pub-seniority/pub/bigall.errNoDigits") = [("pub-seniority/pub/bigall.errNoDigits", Rows.laid_pub_seniority_pub_bigall_errNoDigits)])
    (h3 : (l.filter fun x => x.1 == "pub-seniority/pub/scalibr/semantic.ErrInvalidVersion") = [("pub-seniority/pub/scalibr/semantic.ErrInvalidVersion", Rows.laid_pub_seniority_pub_scalibr_semantic_ErrInvalidVersion)]) : Giv.Laid W := by
  rw [MakeChecks.laidMetH_plain _ _ _ hp] at h
  exact ⟨laid_cell h _ 4 _ h1 (by kernel_rfl) (by kernel_rfl), laid_cell h _ 9 _ h2 (by kernel_rfl) (by kernel_rfl), laid_cell h _ 1 _ h3 (by kernel_rfl) (by kernel_rfl)⟩
end Go.Proofs.YtnbpoplomdocjaaGreatDoor.Rowx
/- The errors and all tables that the statement FnMixed leans on, out of the row's condition. -/
namespace Go.Proofs.YtnbpoplomdocjaaGreatDoor.Rowx
open Go.ChangeShapes Go.WideShapes Go.ChangeAt Go.RowKit Go.Proofs.YtnbpoplomdocjaaGreatDoorW.PrintWords Go.Shelf Go.Lib
set_option linter.unusedVariables false
theorem u8_first : (Rows.laid_unicode_utf8_first : DataW Unit) = firstData := by kernel_rfl
theorem u8_accept : (Rows.laid_unicode_utf8_acceptRanges : DataW Unit) = acceptData := by kernel_rfl
theorem ws_data : (Rows.laid_unicode_White_Space : DataW Unit) = whiteData := by kernel_rfl
theorem tab_data : (Rows.laid_strings_asciiSpace : DataW Unit) = Lib.tabData .u8 Lib.asciiSpaceTab := by kernel_rfl
theorem laidM_of {W : World} {l : List (String × DataW Unit)} (h : laidMetH Tryz.prog l W) (hp : (l.all fun x => x.2.handleName?.isNone) = true)
    (h1 : (l.filter fun x => x.1 == "io.EOF") = [("io.EOF", Rows.laid_io_EOF)]) (h2 : (l.filter fun x => x.1 == "pub-seniority/pub/bigall.errNoDigits") = [("pub-seniority/pub/bigall.errNoDigits", Rows.laid_pub_seniority_pub_bigall_errNoDigits)])
    (h3 : (l.filter fun x => x.1 == "pub-seniority/pub/scalibr/semantic.ErrInvalidVersion") = [("pub-seniority/pub/scalibr/semantic.ErrInvalidVersion", Rows.laid_pub_seniority_pub_scalibr_semantic_ErrInvalidVersion)])
    (h4 : (l.filter fun x => x.1 == "strings.asciiSpace") = [("strings.asciiSpace", Rows.laid_strings_asciiSpace)])
    (h5 : (l.filter fun x => x.1 == "unicode/utf8.first") = [("unicode/utf8.first", Rows.laid_unicode_utf8_first)]) (h6 : (l.filter fun x => x.1 == "unicode/utf8.acceptRanges") = [("unicode/utf8.acceptRanges", Rows.laid_unicode_utf8_acceptRanges)])
    (h7 : (l.filter fun x => x.1 == "unicode.White_Space") = [("unicode.White_Space", Rows.laid_unicode_White_Space)])
    (h8 : (l.filter fun x => x.1 == "pub-seniority/pub/scalibr/semantic.ErrNotSameEcosystem") = [("pub-seniority/pub/scalibr/semantic.ErrNotSameEcosystem", Rows.laid_pub_seniority_pub_scalibr_semantic_ErrNotSameEcosystem)]) : Giv.LaidM W := by
  have e := laid_of h hp h1 h2 h3
  rw [MakeChecks.laidMetH_plain _ _ _ hp] at h
  have ht := h.filter (fun x => x.1 == "strings.asciiSpace")
  rw [h4, tab_data] at ht
  have en := laid_cell h _ 0 _ h8 (by kernel_rfl) (by kernel_rfl)
  obtain ⟨ps, hv, _⟩ := h
  have m5 : ("unicode/utf8.first", (Rows.laid_unicode_utf8_first : DataW Unit)) ∈ l := (List.mem_filter.1 (by rw [h5]; exact List.mem_singleton.2 rfl)).1
  have m6 : ("unicode/utf8.acceptRanges", (Rows.laid_unicode_utf8_acceptRanges : DataW Unit)) ∈ l := (List.mem_filter.1 (by rw [h6]; exact List.mem_singleton.2 rfl)).1
  have m7 : ("unicode.White_Space", (Rows.laid_unicode_White_Space : DataW Unit)) ∈ l := (List.mem_filter.1 (by rw [h7]; exact List.mem_singleton.2 rfl)).1
  have r5 := LaidVars_reads hv _ _ m5
  have r6 := LaidVars_reads hv _ _ m6
  have r7 := LaidVars_reads hv _ _ m7
  rw [u8_first] at r5
  rw [u8_accept] at r6
  rw [ws_data] at r7
  refine ⟨⟨e, Lib.tabIs_of_head Giv.asc_tab_name (t := 114) (by kernel_rfl) Tryz.underlying114 Tryz.underlying5 (by kernel_rfl) (by kernel_rfl) ht, ?_, ?_⟩, en⟩
  · exact utf8Tabs_of_readsT (U8Types.of260 Tryz.lays260) ⟨by kernel_rfl, by kernel_rfl, by kernel_rfl, by kernel_rfl, by kernel_rfl, by kernel_rfl, by kernel_rfl⟩ r5 r6
  · exact whiteTab_of_reads Tryz.lays199 ⟨by kernel_rfl, by kernel_rfl, by kernel_rfl, by kernel_rfl, by kernel_rfl, by kernel_rfl, by kernel_rfl, by kernel_rfl⟩ r7
end Go.Proofs.YtnbpoplomdocjaaGreatDoor.Rowx
