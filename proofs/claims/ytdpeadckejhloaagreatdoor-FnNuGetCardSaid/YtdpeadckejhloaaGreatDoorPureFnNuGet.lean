/- The statement FnNuGet, for all versions: the law of what its calls answer. -/
import Derived.Test.YtdpeadckejhloaaGreatDoorZHV
import Derived.Test.YtdpeadckejhloaaGreatDoorZHR
namespace Go.Proofs.YtdpeadckejhloaaGreatDoor.Pure
open Go.RowKit Go.Proofs.YtdpeadckejhloaaGreatDoor.QH Go.Proofs.YtdpeadckejhloaaGreatDoorW.PrintWords Go.Proofs.YtdpeadckejhloaaGreatDoorW.PrintLast Go.Proofs.YtdpeadckejhloaaGreatDoor.Pk Go.Proofs.YtdpeadckejhloaaGreatDoor.Giv Go.Proofs.YtdpeadckejhloaaGreatDoor.Ord
set_option linter.unusedVariables false
theorem FnNuGet : ∀ (a b : S24), ∃ k, nuTold k a b := by
  intro a b
  obtain ⟨fa, ⟨n0, e0⟩, ha⟩ := fits4_ev a.f0 a.f1 a.f2 a.f3
  cases fa with
  | false => exact ⟨n0, .inl (e0 n0 (Nat.le_refl _))⟩
  | true =>
  obtain ⟨fb, ⟨n1, e1⟩, hb⟩ := fits4_ev b.f0 b.f1 b.f2 b.f3
  cases fb with
  | false => exact ⟨n0 + n1, .inr ⟨e0 _ (by omega), .inl (e1 _ (by omega))⟩⟩
  | true =>
  obtain ⟨q, ⟨n2, e2⟩, hl⟩ := likes_ev a b (ha rfl) (hb rfl)
  cases q with
  | false => exact ⟨n0 + n1 + n2, .inr ⟨e0 _ (by omega), .inr ⟨e1 _ (by omega), .inl (e2 _ (by omega))⟩⟩⟩
  | true =>
  obtain ⟨ka, kb⟩ := hl rfl
  obtain ⟨n3, e3⟩ := nuget_ev a b ka kb
  have m := lkC_cmp _ rfl
  have fl := m.flip a b
  have rg := m.rng a b
  refine ⟨n0 + n1 + n2 + n3, .inr ⟨e0 _ (by omega), .inr ⟨e1 _ (by omega), .inr ⟨e2 _ (by omega), ka.small, kb.small, by have := ka.size; omega, by have := kb.size; omega, asc_of ka.asc, asc_of kb.asc, _, e3 _ (by omega), rfl, fl, ?_⟩⟩⟩⟩
  exact turned_of rfl (by have := rg; omega) (by have := rg; omega)
end Go.Proofs.YtdpeadckejhloaaGreatDoor.Pure
