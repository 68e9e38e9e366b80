/- The statement FnHackage, for all versions: the law of what its calls answer. -/
import Derived.Test.YtdpeadckejhloaaGreatDoorZHV
import Derived.Test.YtdpeadckejhloaaGreatDoorZHT
namespace Go.Proofs.YtdpeadckejhloaaGreatDoor.Pure
open Go.RowKit Go.Proofs.YtdpeadckejhloaaGreatDoor.QH Go.Proofs.YtdpeadckejhloaaGreatDoorW.PrintWords Go.Proofs.YtdpeadckejhloaaGreatDoorW.PrintLast Go.Proofs.YtdpeadckejhloaaGreatDoor.Pk Go.Proofs.YtdpeadckejhloaaGreatDoor.Giv Go.Proofs.YtdpeadckejhloaaGreatDoor.Ord
set_option linter.unusedVariables false
theorem ordInts (a b : Int) : spec_orderInts.f a b = some (cI a b) := by
  unfold spec_orderInts.f cI
  by_cases h : a < b
  · rw [if_pos h, if_pos h]
  · rw [if_neg h, if_neg h]
    by_cases h2 : b < a
    · rw [if_pos h2, if_pos h2]
    · rw [if_neg h2, if_neg h2]
theorem hackage_ev (a b : S24) (ha : Lkd a) (hb : Lkd b) : Ev (fun k => spec_HackageCompare.f k a.f0 a.f1 a.f2 a.f3 b.f0 b.f1 b.f2 b.f3) ((if lkC (zn a.f1) (zn b.f1) a.f2 b.f2 = 0 then cI a.f1.length b.f1.length else lkC (zn a.f1) (zn b.f1) a.f2 b.f2), true) := by
  unfold spec_HackageCompare.f
  refine (nuget_ev a b ha hb).bind ?_
  by_cases h : lkC (zn a.f1) (zn b.f1) a.f2 b.f2 = 0
  · have r : (if lkC (zn a.f1) (zn b.f1) a.f2 b.f2 = 0 then cI a.f1.length b.f1.length else lkC (zn a.f1) (zn b.f1) a.f2 b.f2) = cI a.f1.length b.f1.length := if_pos h
    rw [r]
    refine ev_pos h ?_
    rw [ordInts]
    exact ev_some (Ev.now _)
  · have r : (if lkC (zn a.f1) (zn b.f1) a.f2 b.f2 = 0 then cI a.f1.length b.f1.length else lkC (zn a.f1) (zn b.f1) a.f2 b.f2) = lkC (zn a.f1) (zn b.f1) a.f2 b.f2 := if_neg h
    rw [r]
    exact ev_neg h (Ev.now _)
theorem FnHackage : ∀ (a b : S24), ∃ k, haTold k a b := by
  intro a b
  obtain ⟨fa, ⟨n0, e0⟩, ha⟩ := fits4_ev a.f0 a.f1 a.f2 a.f3
  cases fa with
  | false => exact ⟨n0, .inl (e0 n0 (Nat.le_refl _))⟩
  | true =>
  obtain ⟨fb, ⟨n1, e1⟩, hb⟩ := fits4_ev b.f0 b.f1 b.f2 b.f3
  cases fb with
  | false => exact ⟨n0 + n1, .inr ⟨e0 _ (by omega), .inl (e1 _ (by omega))⟩⟩
  | true =>
  obtain ⟨q, ⟨n2, e2⟩, hl⟩ := likes_ev a b (ha rfl) (hb rfl)
  cases q with
  | false => exact ⟨n0 + n1 + n2, .inr ⟨e0 _ (by omega), .inr ⟨e1 _ (by omega), .inl (e2 _ (by omega))⟩⟩⟩
  | true =>
  obtain ⟨ka, kb⟩ := hl rfl
  obtain ⟨n3, e3⟩ := hackage_ev a b ka kb
  have m := (lkC_cmp _ rfl).then_ (cI_cmp.key (fun a : S24 => (a.f1.length : Int)))
  have fl := m.flip a b
  have rg := m.rng a b
  refine ⟨n0 + n1 + n2 + n3, .inr ⟨e0 _ (by omega), .inr ⟨e1 _ (by omega), .inr ⟨e2 _ (by omega), ka.small, kb.small, by have := ka.size; omega, by have := kb.size; omega, asc_of ka.asc, asc_of kb.asc, _, e3 _ (by omega), rfl, fl, ?_⟩⟩⟩⟩
  exact turned_of rfl (by have := rg; omega) (by have := rg; omega)
end Go.Proofs.YtdpeadckejhloaaGreatDoor.Pure
