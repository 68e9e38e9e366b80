/- What the reference answers: numbers in digits compared. -/
import Derived.Test.YtkecmlpihnjjgaaDoorLPseg
namespace Go.Proofs.YtkecmlpihnjjgaaDoor.QL
open Go.RowKit Go.Proofs.YtkecmlpihnjjgaaDoorW.PrintWords Go.Proofs.YtkecmlpihnjjgaaDoorW.PrintLast Go.Proofs.YtkecmlpihnjjgaaDoor.Pk Go.Proofs.YtkecmlpihnjjgaaDoor.Giv Go.Proofs.YtkecmlpihnjjgaaDoor.Ord
set_option linter.unusedVariables false

end Go.Proofs.YtkecmlpihnjjgaaDoor.QL
