/- The statement FnMavenSame: a version of Maven is equal to itself, for all lists of tokens.
   No condition beyond those that the statement itself states (its card ties the listed variables to the program's text). -/
import Derived.Test.YtkecmlpihnjjgaaDoorLPmv
namespace Go.Proofs.YtkecmlpihnjjgaaDoor.Pure
open Go.RowKit Go.Proofs.YtkecmlpihnjjgaaDoor.QL Go.Proofs.YtkecmlpihnjjgaaDoorW.PrintWords Go.Proofs.YtkecmlpihnjjgaaDoorW.PrintLast Go.Proofs.YtkecmlpihnjjgaaDoor.Pk Go.Proofs.YtkecmlpihnjjgaaDoor.Giv Go.Proofs.YtkecmlpihnjjgaaDoor.Ord
theorem FnMavenSame (l : List S31) : SameP l := by
  obtain ⟨b, ⟨K1, e1⟩, f1⟩ := fits10_ev l
  cases b with
  | false => exact ⟨K1, .inl (e1 K1 (Nat.le_refl _))⟩
  | true =>
    obtain ⟨hl, hs⟩ := f1 rfl
    obtain ⟨c, ⟨K2, e2⟩, f2⟩ := tokens_ev [l] (by simp) (by simpa using ⟨hl, hs⟩)
    cases c with
    | false => exact ⟨max K1 K2, .inr (.inl ⟨e1 _ (Nat.le_max_left _ _), e2 _ (Nat.le_max_right _ _)⟩)⟩
    | true =>
      obtain ⟨K3, e3⟩ := maven_ev l hl
      obtain ⟨K4, e4⟩ := cmp_same l hl hs
      have h := f2 rfl l (by simp)
      exact ⟨max (max K1 K2) (max K3 K4), .inr (.inr ⟨e1 _ (by omega), e2 _ (by omega), by have := h.1; omega, ⟨_, e3 _ (by omega), by simp⟩, e4 _ (by omega)⟩)⟩
end Go.Proofs.YtkecmlpihnjjgaaDoor.Pure
