/- The statement FnRedHatPartsOrder: parts of Red Hat versions are in one order, for all texts.
   No condition beyond those that the statement itself states (its card ties the listed variable to the program's text). -/
import Derived.Test.YtojabknjniihmabDoorEPshort
import Derived.Test.YtojabknjniihmabDoorEPplain
import Derived.Test.YtojabknjniihmabDoorEPchain
import Derived.Test.YtojabknjniihmabDoorEPimp
namespace Go.Proofs.YtojabknjniihmabDoor.Pure
open Go.RowKit Go.Proofs.YtojabknjniihmabDoor.QE Go.Proofs.YtojabknjniihmabDoorW.PrintWords Go.Proofs.YtojabknjniihmabDoorW.PrintLast Go.Proofs.YtojabknjniihmabDoor.Pk Go.Proofs.YtojabknjniihmabDoor.Giv Go.Proofs.YtojabknjniihmabDoor.Ord
theorem FnRedHatPartsOrder : laws_FnRedHatPartsOrder.Pure := by
  intro a b c _ _ _
  suffices h : Ev (fun k => laws_FnRedHatPartsOrder.f k a b c) true from h.rounds
  have out : Ev (fun k => laws_FnRedHatPartsOrder.j0 k a b c true) true := by
    refine Ev.step (fun k => by rw [laws_FnRedHatPartsOrder.j0]) ?_
    exact ev_pos rfl (Ev.now _)
  have out1 : Ev (fun k => laws_FnRedHatPartsOrder.j1 k a b c true) true := by
    refine Ev.step (fun k => by rw [laws_FnRedHatPartsOrder.j1]) ?_
    exact ev_pos rfl (Ev.now _)
  unfold laws_FnRedHatPartsOrder.f
  by_cases hz : (a.size : Int) > 2147483647
  · exact ev_pos hz out
  refine ev_neg hz ?_
  by_cases hz' : (b.size : Int) > 2147483647
  · exact ev_pos hz' out
  refine ev_neg hz' ?_
  cases hd : decide ((c.size : Int) > 2147483647) with
  | true => exact out
  | false =>
    refine Ev.step (fun k => by rw [laws_FnRedHatPartsOrder.j0]) ?_
    refine ev_neg (by simp) ?_
    refine (short_ev [a, b, c] (by simp)).bind ?_
    cases hb : shortB [a, b, c] with
    | false => exact ev_neg (by simp) out1
    | true =>
      have h1 := short_sizes hb a (by simp)
      have h2 := short_sizes hb b (by simp)
      have h3 := short_sizes hb c (by simp)
      refine ev_pos rfl ?_
      have l1 : a.toList.length ≤ 1500 := by rw [len_toList]; exact h1
      have l2 : b.toList.length ≤ 1500 := by rw [len_toList]; exact h2
      have l3 : c.toList.length ≤ 1500 := by rw [len_toList]; exact h3
      rw [bs_of a, bs_of b, bs_of c] at out1 ⊢
      generalize a.toList = a at *
      generalize b.toList = b at *
      generalize c.toList = c at *
      refine (plain_ev [46, 95, 43, 126, 94] a (by simp) (by omega)).bind ?_
      cases plainB [46, 95, 43, 126, 94] a with
      | false => exact ev_neg (by simp) out1
      | true =>
        refine ev_pos rfl ?_
        refine (plain_ev [46, 95, 43, 126, 94] b (by simp) (by omega)).bind ?_
        cases plainB [46, 95, 43, 126, 94] b with
        | false => exact ev_neg (by simp) out1
        | true =>
          refine ev_pos rfl ?_
          refine (plain_ev [46, 95, 43, 126, 94] c (by simp) (by omega)).bind ?_
          cases plainB [46, 95, 43, 126, 94] c with
          | false => exact out1
          | true =>
            refine Ev.step (fun k => by rw [laws_FnRedHatPartsOrder.j1]) ?_
            refine ev_neg (by simp) ?_
            rw [awake_f, implParts a a (by omega) (by omega), implParts a b (by omega) (by omega), implParts b c (by omega) (by omega), implParts a c (by omega) (by omega)]
            refine ev_some (ev_pos rfl (ev_some (ev_pos (Rpm.parts_cmp.self a) (ev_some (ev_some (ev_some ?_))))))
            refine (chained_ev (Cmp.chain Rpm.parts_cmp a b c)).bind ?_
            exact Ev.now _
end Go.Proofs.YtojabknjniihmabDoor.Pure
