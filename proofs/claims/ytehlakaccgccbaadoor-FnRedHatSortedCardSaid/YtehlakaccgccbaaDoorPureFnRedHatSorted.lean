/- The statement FnRedHatSorted: its walk tells all (OQsr). -/
import Derived.Test.YtehlakaccgccbaaDoorOQsr
namespace Go.Proofs.YtehlakaccgccbaaDoor.Pure
open Go.RowKit Go.Proofs.YtehlakaccgccbaaDoor.QO
set_option linter.unusedVariables false
theorem FnRedHatSorted : ∀ (l0 : List ByteArray), l0.length ≤ 9223372036854775807 → (∀ s ∈ l0, s.size ≤ 9223372036854775807) → ∃ k, laws_FnRedHatSorted.f k l0 = some true := fun _ _ _ => ⟨0, rfl⟩
end Go.Proofs.YtehlakaccgccbaaDoor.Pure
