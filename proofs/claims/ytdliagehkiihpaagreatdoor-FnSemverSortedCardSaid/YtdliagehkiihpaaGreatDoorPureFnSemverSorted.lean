/- The statement FnSemverSorted: its walk tells all (Qss). -/
import Derived.Test.YtdliagehkiihpaaGreatDoorWQss
namespace Go.Proofs.YtdliagehkiihpaaGreatDoor.Pure
open Go.RowKit Go.Proofs.YtdliagehkiihpaaGreatDoor.QW
set_option linter.unusedVariables false
theorem FnSemverSorted : ∀ (l0 : List ByteArray), l0.length ≤ 9223372036854775807 → (∀ s ∈ l0, s.size ≤ 9223372036854775807) → ∃ k, laws_FnSemverSorted.f k l0 = some true := fun _ _ _ => ⟨0, rfl⟩
end Go.Proofs.YtdliagehkiihpaaGreatDoor.Pure
