/- What the reference's small functions over lists of texts answer: fits, digits, known segments, numbers in digits. -/
import Derived.Test.YtchnlfkdgajodaaDoorZD
import Derived.Test.YtchnlfkdgajodaaDoorZA
import Derived.Test.YtchnlfkdgajodaaDoorDPshort
import Derived.Test.YtchnlfkdgajodaaDoorDPdg
import Derived.Test.YtchnlfkdgajodaaDoorQDx
namespace Go.Proofs.YtchnlfkdgajodaaDoor.QD
open Go.RowKit Go.Proofs.YtchnlfkdgajodaaDoorW.PrintWords Go.Proofs.YtchnlfkdgajodaaDoorW.PrintLast Go.Proofs.YtchnlfkdgajodaaDoor.Pk Go.Proofs.YtchnlfkdgajodaaDoor.Giv Go.Proofs.YtchnlfkdgajodaaDoor.Ord
set_option linter.unusedVariables false

theorem tail_eq (s : ByteArray) (h : 0 < s.size) : s.toList = s[0]'h :: (s.extract 1 s.size).toList := by
  rw [ext_all]
  have := drop_at s 0 h
  simpa using this
end Go.Proofs.YtchnlfkdgajodaaDoor.QD
