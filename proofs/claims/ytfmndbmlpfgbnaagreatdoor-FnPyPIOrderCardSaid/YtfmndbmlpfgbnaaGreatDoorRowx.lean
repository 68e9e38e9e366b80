/- What the rows of the statements over texts and lists of texts have in common: the arguments read, the errors laid. -/
import Derived.Test.YtfmndbmlpfgbnaaGreatDoorZC
import Derived.Test.YtfmndbmlpfgbnaaGreatDoorRows
import Derived.SliceStrings
import Derived.WalkKit
import Derived.ProofKit
import Derived.Below
import Derived.SizedLaws
import Derived.OpenShut
import Derived.ShutString
import Derived.ChangeOld
import Derived.LaidMore
import Derived.LaidSub
import Derived.Stop.LaidErr
import Derived.Stop.Joined
import Derived.MakeChecks
namespace Go.Proofs.YtfmndbmlpfgbnaaGreatDoor.Rowx
open Go.ChangeShapes Go.WideShapes Go.ChangeAt Go.RowKit Go.Proofs.YtfmndbmlpfgbnaaGreatDoorW.PrintWords
set_option linter.unusedVariables false

theorem errRow (u : TypeId) (h : Tryz.prog.typeName? 3 u = some "*errors.errorString") : u = 150 :=
  typeName_ptr_named (nm := "errors.errorString") (by kernel_rfl) (by kernel_rfl) (by decide) u h
/-- A listed error's cell. -/
theorem laid_cell {W : World} {l : List (String × DataW Unit)} (h : laidMet Tryz.prog l W) (n : String) (g : Nat) (text : List UInt8) (hm : (l.filter fun x => x.1 == n) = [(n, .iface "*errors.errorString" (.ptr (.agg [.lit (.string text)])))])
    (hg : Tryz.prog.globalNamed n = some g) (ht : (Tryz.prog.globals[g]?).map (·.type) = some 70) : ∃ a, W.cell? ⟨g, 0, none⟩ = some (Giv.errv a) := by
  have h1 := h.filter (fun x => x.1 == n)
  rw [hm] at h1
  obtain ⟨a, s, hv, _⟩ := laid_sentinel h1 hg ht Tryz.underlying70 errRow Tryz.underlying150 Tryz.underlying166 rfl rfl Tryz.underlying9 (by kernel_rfl) (by kernel_rfl)
  refine ⟨a, ?_⟩
  rw [World.var?_cell hg hv 0]
  rfl
theorem laid_of {W : World} {l : List (String × DataW Unit)} (h : laidMetH Tryz.prog l W) (hp : (l.all fun x => x.2.handleName?.isNone) = true)
    (h1 : (l.filter fun x => x.1 == "io.EOF") = [("io.EOF", Rows.laid_io_EOF)]) (h2 : (l.filter fun x => x.1 == "pub-seniority/pub/bigall.errNoDigits") = [("pub-seniority/pub/bigall.errNoDigits", Rows.laid_pub_seniority_pub_bigall_errNoDigits)])
    (h3 : (l.filter fun x => x.1 == "pub-seniority/pub/scalibr/semantic.ErrInvalidVersion") = [("pub-seniority/pub/scalibr/semantic.ErrInvalidVersion", Rows.laid_pub_seniority_pub_scalibr_semantic_ErrInvalidVersion)]) : Giv.Laid W := by
  rw [MakeChecks.laidMetH_plain _ _ _ hp] at h
  exact ⟨laid_cell h _ 2 _ h1 (by kernel_rfl) (by kernel_rfl), laid_cell h _ 4 _ h2 (by kernel_rfl) (by kernel_rfl), laid_cell h _ 0 _ h3 (by kernel_rfl) (by kernel_rfl)⟩
theorem laidOut : laidOutB Tryz.prog = true := by kernel_rfl
end Go.Proofs.YtfmndbmlpfgbnaaGreatDoor.Rowx
