/- What the reference's small functions over lists of texts answer: fits, digits, known segments, numbers in digits. -/
import Derived.Test.YtmbgkdklgdkikaaDoorZD
import Derived.Test.YtmbgkdklgdkikaaDoorZA
import Derived.Test.YtmbgkdklgdkikaaDoorPPshort
import Derived.Test.YtmbgkdklgdkikaaDoorPPdg
import Derived.Test.YtmbgkdklgdkikaaDoorQPx
namespace Go.Proofs.YtmbgkdklgdkikaaDoor.QP
open Go.RowKit Go.Proofs.YtmbgkdklgdkikaaDoorW.PrintWords Go.Proofs.YtmbgkdklgdkikaaDoorW.PrintLast Go.Proofs.YtmbgkdklgdkikaaDoor.Pk Go.Proofs.YtmbgkdklgdkikaaDoor.Giv Go.Proofs.YtmbgkdklgdkikaaDoor.Ord
set_option linter.unusedVariables false

theorem tail_eq (s : ByteArray) (h : 0 < s.size) : s.toList = s[0]'h :: (s.extract 1 s.size).toList := by
  rw [ext_all]
  have := drop_at s 0 h
  simpa using this
end Go.Proofs.YtmbgkdklgdkikaaDoor.QP
