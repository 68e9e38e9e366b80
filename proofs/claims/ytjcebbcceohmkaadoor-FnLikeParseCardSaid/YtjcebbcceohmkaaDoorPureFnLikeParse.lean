/- The statement FnLikeParse: which numbers a version like those of SemVer has, and what stands behind them, for all texts.
   No condition beyond those that the statement itself states (its card ties the listed variables to the program's text). -/
import Derived.Test.YtjcebbcceohmkaaDoorZLP
import Derived.Test.YtjcebbcceohmkaaDoorZLO
namespace Go.Proofs.YtjcebbcceohmkaaDoor.Pure
open Go.RowKit Go.Proofs.YtjcebbcceohmkaaDoor.QL Go.Proofs.YtjcebbcceohmkaaDoorW.PrintWords Go.Proofs.YtjcebbcceohmkaaDoorW.PrintLast Go.Proofs.YtjcebbcceohmkaaDoor.Pk Go.Proofs.YtjcebbcceohmkaaDoor.Giv Go.Proofs.YtjcebbcceohmkaaDoor.Ord
theorem FnLikeParse : laws_FnLikeParse.Pure := by
  intro s _
  suffices h : Ev (fun k => laws_FnLikeParse.f k s) true from h.rounds
  have out : Ev (fun k => laws_FnLikeParse.j0 k s true) true := by
    refine Ev.step (fun k => by rw [laws_FnLikeParse.j0]) ?_
    exact ev_pos rfl (Ev.now _)
  unfold laws_FnLikeParse.f
  by_cases hs : (s.size : Int) > 2147483647
  · exact ev_pos hs (Ev.now _)
  refine ev_neg hs ((short_ev [s] (by simp)).bind ?_)
  cases sh : shortB [s] with
  | false => exact ev_neg (by simp) out
  | true =>
  have zs := short_sizes sh s (by simp)
  have kn : spec_LikeKnown.f s = some (Lib.validD s.toList) := by
    unfold spec_LikeKnown.f Giv.utf8_ValidString.f
    rw [if_pos (by omega)]
    rfl
  rw [kn]
  refine ev_pos rfl (ev_some ?_)
  cases hv : Lib.validD s.toList with
  | false => exact out
  | true =>
  have pv := Slk.parseR_valid s hv
  have sp := likeParse_ev s (by omega)
  have ll : (pn (Slk.parse s.toList).1).length < 4611686018427387904 := by
    unfold pn
    rw [List.length_map, ← pv]
    have := parseR_len s (by omega)
    omega
  have ie := ints_ev (pn (Slk.parse s.toList).1) ll
  have im : Giv.impl_LikeParse.f s = some (Slk.lead s.toList, pn (Slk.parse s.toList).1, bs (Slk.parse s.toList).2, s) := by
    unfold Giv.impl_LikeParse.f
    rw [if_pos (by omega), pv]
  refine Ev.step (fun k => by rw [laws_FnLikeParse.j0, im]) ?_
  refine ev_neg (by simp) (ev_some (sp.bind (ev_pos (beq_self_eq_true _) (ie.bind (ev_pos rfl (ev_pos rfl (ev_pos rfl ?_)))))))
  show Ev (fun _ => some (s.toList == s.toList)) true
  rw [beq_self_eq_true]
  exact Ev.now _
end Go.Proofs.YtjcebbcceohmkaaDoor.Pure
