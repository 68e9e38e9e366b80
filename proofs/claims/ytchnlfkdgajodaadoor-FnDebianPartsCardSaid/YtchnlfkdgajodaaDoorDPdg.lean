/- What the reference answers: digits. -/
import Derived.Test.YtchnlfkdgajodaaDoorZD
import Derived.Test.YtchnlfkdgajodaaDoorZA
import Derived.Test.YtchnlfkdgajodaaDoorQDx
namespace Go.Proofs.YtchnlfkdgajodaaDoor.QD
open Go.RowKit Go.Proofs.YtchnlfkdgajodaaDoorW.PrintWords Go.Proofs.YtchnlfkdgajodaaDoorW.PrintLast Go.Proofs.YtchnlfkdgajodaaDoor.Pk Go.Proofs.YtchnlfkdgajodaaDoor.Giv Go.Proofs.YtchnlfkdgajodaaDoor.Ord
set_option linter.unusedVariables false

theorem isDigit_f (c : UInt8) : spec_isDigit.f (c.toNat : Int) = some (Rpm.dig c) := by
  unfold spec_isDigit.f Rpm.dig
  by_cases h : (c.toNat : Int) ≥ 48
  · rw [if_pos h]
    congr 1
    rw [decide_eq_decide]
    omega
  · rw [if_neg h]
    congr 1
    rw [eq_comm, decide_eq_false_iff_not]
    omega
end Go.Proofs.YtchnlfkdgajodaaDoor.QD
