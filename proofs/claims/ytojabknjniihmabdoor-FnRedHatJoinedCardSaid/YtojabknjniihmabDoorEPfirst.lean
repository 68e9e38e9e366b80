/- 'first' of numbers: the first that is not 0. -/
import Derived.Test.YtojabknjniihmabDoorPk
import Derived.Test.YtojabknjniihmabDoorQEx
namespace Go.Proofs.YtojabknjniihmabDoor.QE
open Go.RowKit Go.Proofs.YtojabknjniihmabDoorW.PrintWords Go.Proofs.YtojabknjniihmabDoorW.PrintLast Go.Proofs.YtojabknjniihmabDoor.Pk Go.Proofs.YtojabknjniihmabDoor.Giv
set_option linter.unusedVariables false
def firstL : List Int → Int
  | [] => 0
  | x :: r => if x = 0 then firstL r else x
theorem first_loop (l : List Int) (hl : l.length < 4611686018427387904) (d : Nat) : ∀ i : Nat, i + d = l.length → Ev (fun k => laws_first.l0 k l (l.length : Int) (i : Int)) (firstL (l.drop i)) := by
  induction d with
  | zero =>
    intro i hi
    refine Ev.step (fun k => by rw [laws_first.l0]) ?_
    refine ev_neg (by omega) ?_
    rw [List.drop_of_length_le (by omega)]
    exact Ev.now _
  | succ d ih =>
    intro i hi
    have hlt : i < l.length := by omega
    have r := rd_nat l i hlt
    have w := wr i (by omega)
    refine Ev.step (fun k => by rw [laws_first.l0, r, w]) ?_
    refine ev_pos (by omega) (ev_pos (by omega) (ev_pos (by omega) ?_))
    rw [List.drop_eq_getElem_cons hlt, firstL]
    by_cases h : l[i] = 0
    · refine ev_pos h ?_
      rw [if_pos h]
      exact ih (i + 1) (by omega)
    · refine ev_neg h ?_
      rw [if_neg h]
      exact Ev.now _
theorem first_ev (l : List Int) (hl : l.length < 4611686018427387904) : Ev (fun k => laws_first.f k l) (firstL l) := first_loop l hl l.length 0 (by omega)
end Go.Proofs.YtojabknjniihmabDoor.QE
