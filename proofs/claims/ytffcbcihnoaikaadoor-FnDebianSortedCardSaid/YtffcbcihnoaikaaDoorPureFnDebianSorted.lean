/- The statement FnDebianSorted: its walk tells all (OQso). -/
import Derived.Test.YtffcbcihnoaikaaDoorOQso
namespace Go.Proofs.YtffcbcihnoaikaaDoor.Pure
open Go.RowKit Go.Proofs.YtffcbcihnoaikaaDoor.QO
set_option linter.unusedVariables false
theorem FnDebianSorted : ∀ (l0 : List ByteArray), l0.length ≤ 9223372036854775807 → (∀ s ∈ l0, s.size ≤ 9223372036854775807) → ∃ k, laws_FnDebianSorted.f k l0 = some true := fun _ _ _ => ⟨0, rfl⟩
end Go.Proofs.YtffcbcihnoaikaaDoor.Pure
