/- The statement FnCRANZeros: zeros ahead of numbers change no CRAN version, for all texts.
   No condition beyond those that the statement itself states (its card ties the listed variables to the program's text). -/
import Derived.Test.YtchbfjjeodnocaaDoorXPshort
import Derived.Test.YtchbfjjeodnocaaDoorXPplain
import Derived.Test.YtchbfjjeodnocaaDoorXPcr
import Derived.Test.YtchbfjjeodnocaaDoorQXx
namespace Go.Proofs.YtchbfjjeodnocaaDoor.Pure
open Go.RowKit Go.Proofs.YtchbfjjeodnocaaDoor.QX Go.Proofs.YtchbfjjeodnocaaDoorW.PrintWords Go.Proofs.YtchbfjjeodnocaaDoorW.PrintLast Go.Proofs.YtchbfjjeodnocaaDoor.Pk Go.Proofs.YtchbfjjeodnocaaDoor.Giv Go.Proofs.YtchbfjjeodnocaaDoor.Ord
theorem FnCRANZeros : laws_FnCRANZeros.Pure := by
  intro a _
  suffices h : Ev (fun k => laws_FnCRANZeros.f k a) true from h.rounds
  have out : Ev (fun k => laws_FnCRANZeros.j0 k a true) true := by
    refine Ev.step (fun k => by rw [laws_FnCRANZeros.j0]) ?_
    exact ev_pos rfl (Ev.now _)
  unfold laws_FnCRANZeros.f
  by_cases ha : (a.size : Int) > 2147483647
  · exact ev_pos ha (Ev.now _)
  refine ev_neg ha ((short_ev [a] (by simp)).bind ?_)
  cases sh : shortB [a] with
  | false => exact ev_neg (by simp) out
  | true =>
  have za := short_sizes sh a (by simp)
  have pv := plain_ev [46, 45] a.toList (by simp) (by rw [len_toList]; omega)
  rw [← bs_of] at pv
  refine ev_pos rfl (pv.bind ?_)
  cases plainB [46, 45] a.toList with
  | false => exact out
  | true =>
  refine Ev.step (fun k => by rw [laws_FnCRANZeros.j0]) ?_
  refine ev_neg (by simp) ?_
  have zl := zer_len a.toList false
  rw [len_toList] at zl
  have i2 := ip_ev (bs (zer false a.toList)) (by rw [bs_size]; omega)
  rw [crN_zer] at i2
  refine (ip_ev a (by omega)).bind ((zeroed_ev a za).bind (i2.bind (cranAwake_ev.bind ?_)))
  refine ev_pos rfl (ev_pos (by simp) ?_)
  exact (ints_ev _ (ip_len a (by omega))).bind (Ev.now _)
end Go.Proofs.YtchbfjjeodnocaaDoor.Pure
