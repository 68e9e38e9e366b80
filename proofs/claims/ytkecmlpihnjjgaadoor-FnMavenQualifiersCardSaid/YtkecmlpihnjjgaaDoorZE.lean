/- Lists of texts, as bytes. -/
import Derived.Test.YtkecmlpihnjjgaaDoorZD
import Derived.Test.YtkecmlpihnjjgaaDoorZA
namespace Go.Proofs.YtkecmlpihnjjgaaDoor.Giv
open Go.RowKit Go.Proofs.YtkecmlpihnjjgaaDoorW.PrintWords Go.Proofs.YtkecmlpihnjjgaaDoorW.PrintLast Go.Proofs.YtkecmlpihnjjgaaDoor.Pk Go.Proofs.YtkecmlpihnjjgaaDoor.Ord
set_option linter.unusedVariables false
set_option linter.unusedSimpArgs false

end Go.Proofs.YtkecmlpihnjjgaaDoor.Giv
