/- The statement FnRedHatParts: two parts of Red Hat versions compare as the reference says, and turned round the other way, for every pair of texts.
   No condition beyond those that the statement itself states. -/
import Derived.Test.YtojabknjniihmaaRPshort
import Derived.Test.YtojabknjniihmaaRPrpm
namespace Go.Proofs.Ytojabknjniihmaa.QR
open Go.RowKit Go.Proofs.YtojabknjniihmaaW.PrintWords Go.Proofs.YtojabknjniihmaaW.PrintLast Go.Proofs.Ytojabknjniihmaa.Pk Go.Proofs.Ytojabknjniihmaa.Giv Go.Proofs.Ytojabknjniihmaa.Ord
theorem implParts (a b : List UInt8) (ha : a.length ≤ 2147483647) (hb : b.length ≤ 2147483647) : impl_RedHatParts.f (bs a) (bs b) = some (Rpm.parts a b) := by
  unfold impl_RedHatParts.f semantic_ZZRedHatParts.f Giv.semantic_compareRedHatComponents.f
  rw [if_pos (by rw [bs_size]; omega), if_pos (by rw [bs_size]; omega), bs_toList, bs_toList]
  rfl
end Go.Proofs.Ytojabknjniihmaa.QR
namespace Go.Proofs.Ytojabknjniihmaa.Pure
open Go.RowKit Go.Proofs.Ytojabknjniihmaa.QR Go.Proofs.YtojabknjniihmaaW.PrintWords Go.Proofs.YtojabknjniihmaaW.PrintLast Go.Proofs.Ytojabknjniihmaa.Pk Go.Proofs.Ytojabknjniihmaa.Giv Go.Proofs.Ytojabknjniihmaa.Ord
theorem FnRedHatParts : laws_FnRedHatParts.Pure := by
  intro s t _ _
  suffices h : Ev (fun k => laws_FnRedHatParts.f k s t) true from h.rounds
  have out : Ev (fun k => laws_FnRedHatParts.j0 k s t true) true := by
    refine Ev.step (fun k => by rw [laws_FnRedHatParts.j0]) ?_
    exact ev_pos rfl (Ev.now _)
  have out1 : Ev (fun k => laws_FnRedHatParts.j1 k s t true) true := by
    refine Ev.step (fun k => by rw [laws_FnRedHatParts.j1]) ?_
    exact ev_pos rfl (Ev.now _)
  unfold laws_FnRedHatParts.f
  by_cases hz : (s.size : Int) > 2147483647
  · exact ev_pos hz out
  · refine ev_neg hz ?_
    cases hd : decide ((t.size : Int) > 2147483647) with
    | true => exact out
    | false =>
      refine Ev.step (fun k => by rw [laws_FnRedHatParts.j0]) ?_
      refine ev_neg (by simp) ?_
      refine (short_ev [s, t] (by simp)).bind ?_
      cases hb : shortB [s, t] with
      | false => exact ev_neg (by simp) out1
      | true =>
        have h1 := short_sizes hb s (by simp)
        have h2 := short_sizes hb t (by simp)
        refine ev_pos rfl ?_
        unfold spec_RedHatKnown.f
        refine ev_some (ev_pos (by simp) (ev_some ?_))
        rw [show decide ((t.size : Int) ≥ 0) = true by simp]
        refine Ev.step (fun k => by rw [laws_FnRedHatParts.j1]) ?_
        refine ev_neg (by simp) ?_
        rw [bs_of s, bs_of t]
        have l1 : s.toList.length ≤ 1500 := by rw [len_toList]; exact h1
        have l2 : t.toList.length ≤ 1500 := by rw [len_toList]; exact h2
        rw [implParts _ _ (by omega) (by omega), implParts _ _ (by omega) (by omega)]
        refine ev_some ?_
        refine (specParts_ev _ _ (by omega) (by omega)).bind ?_
        refine ev_pos rfl (ev_some ?_)
        have f := Rpm.parts_cmp.flip t.toList s.toList
        have g := Rpm.parts_cmp.rng s.toList t.toList
        have g' := Rpm.parts_cmp.rng t.toList s.toList
        unfold laws_turned.f
        rw [if_pos (by unfold wrap64; omega), if_pos (by omega), show decide (Rpm.parts s.toList t.toList ≤ 1) = true by rw [decide_eq_true_eq]; omega]
        exact Ev.now _
end Go.Proofs.Ytojabknjniihmaa.Pure
