/- What the reference's small functions over lists of texts answer: fits, digits, known segments, numbers in digits. -/
import Derived.Test.YtkecmlpihnjjgaaDoorZD
import Derived.Test.YtkecmlpihnjjgaaDoorZA
import Derived.Test.YtkecmlpihnjjgaaDoorLPshort
import Derived.Test.YtkecmlpihnjjgaaDoorLPdg
import Derived.Test.YtkecmlpihnjjgaaDoorQLx
namespace Go.Proofs.YtkecmlpihnjjgaaDoor.QL
open Go.RowKit Go.Proofs.YtkecmlpihnjjgaaDoorW.PrintWords Go.Proofs.YtkecmlpihnjjgaaDoorW.PrintLast Go.Proofs.YtkecmlpihnjjgaaDoor.Pk Go.Proofs.YtkecmlpihnjjgaaDoor.Giv Go.Proofs.YtkecmlpihnjjgaaDoor.Ord
set_option linter.unusedVariables false

end Go.Proofs.YtkecmlpihnjjgaaDoor.QL
