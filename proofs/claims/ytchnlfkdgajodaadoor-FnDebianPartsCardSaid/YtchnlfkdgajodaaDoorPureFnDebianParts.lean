/- The statement FnDebianParts: how two upstream versions or revisions compare, for all texts of which it is said what they mean, and turned round the other way.
   No condition beyond those that the statement itself states (its card ties the listed variables to the program's text). -/
import Derived.Test.YtchnlfkdgajodaaDoorDPdq
import Derived.Test.YtchnlfkdgajodaaDoorDPshort
import Derived.Test.YtchnlfkdgajodaaDoorGivDp
import Derived.Test.YtchnlfkdgajodaaDoorQDx
namespace Go.Proofs.YtchnlfkdgajodaaDoor.Pure
open Go.RowKit Go.Proofs.YtchnlfkdgajodaaDoor.QD Go.Proofs.YtchnlfkdgajodaaDoorW.PrintWords Go.Proofs.YtchnlfkdgajodaaDoorW.PrintLast Go.Proofs.YtchnlfkdgajodaaDoor.Pk Go.Proofs.YtchnlfkdgajodaaDoor.Giv Go.Proofs.YtchnlfkdgajodaaDoor.Ord
set_option linter.unusedVariables false
set_option linter.unusedSimpArgs false
theorem turned_f (x y : Int) (h : y = -x) (h1 : -1 ≤ x) (h2 : x ≤ 1) : laws_turned.f x y = some true := by
  unfold laws_turned.f
  have w : wrap64 (-y) = x := by unfold wrap64; omega
  rw [w, if_pos rfl, if_pos (by omega)]
  congr 1
  exact decide_eq_true h2
theorem FnDebianParts : laws_FnDebianParts.Pure := by
  intro a0 a1 h0 h1
  rw [bs_of a0, bs_of a1] at *
  rw [bs_size] at h0 h1
  generalize a0.toList = a at *
  generalize a1.toList = b at *
  refine Ev.rounds (g := fun k => laws_FnDebianParts.f k (bs a) (bs b)) ?_
  unfold laws_FnDebianParts.f
  have yes : ∀ x0 x1, Ev (fun k => laws_FnDebianParts.j0 k x0 x1 true) true := fun x0 x1 => by
    refine Ev.step (fun k => by rw [laws_FnDebianParts.j0]) ?_
    exact ev_pos rfl (Ev.now _)
  have skip : ∀ x0 x1, Ev (fun k => laws_FnDebianParts.j1 k x0 x1 true) true := fun x0 x1 => by
    refine Ev.step (fun k => by rw [laws_FnDebianParts.j1]) ?_
    exact ev_pos rfl (Ev.now _)
  rw [bs_size, bs_size]
  by_cases g0 : (a.length : Int) > 2147483647
  · exact ev_pos g0 (yes _ _)
  · refine ev_neg g0 ?_
    by_cases g1 : (b.length : Int) > 2147483647
    · rw [decide_eq_true g1]
      exact yes _ _
    · rw [decide_eq_false g1]
      refine Ev.step (fun k => by rw [laws_FnDebianParts.j0]) ?_
      refine ev_neg (by simp) ((short_ev [bs a, bs b] (by simp)).bind ?_)
      cases hs : shortB [bs a, bs b] with
      | false => exact ev_neg (by simp) (skip _ _)
      | true =>
        have z0 := short_sizes hs (bs a) (by simp)
        have z1 := short_sizes hs (bs b) (by simp)
        rw [bs_size] at z0 z1
        refine ev_pos rfl ((known_ev a (by omega)).bind ?_)
        cases ka : knownB a with
        | false => exact ev_neg (by simp) (skip _ _)
        | true =>
          refine ev_pos rfl ((known_ev b (by omega)).bind ?_)
          cases kb : knownB b with
          | false => exact skip _ _
          | true =>
            have oa := knownB_okB ka (by omega)
            have ob := knownB_okB kb (by omega)
            have sp : Ev (fun k => spec_DebianParts.f k (bs a) (bs b)) (Deb.debC a b, true) := by
              unfold spec_DebianParts.f
              exact (debParts_ev a b (by omega) (by omega)).bind (Ev.now _)
            have ip : Giv.impl_DebianParts.f (bs a) (bs b) = some (Deb.debC a b, true) := by
              unfold Giv.impl_DebianParts.f
              rw [bs_toList, bs_toList, if_pos ⟨oa, ob⟩]
            have iq : Giv.impl_DebianParts.f (bs b) (bs a) = some (Deb.debC b a, true) := by
              unfold Giv.impl_DebianParts.f
              rw [bs_toList, bs_toList, if_pos ⟨ob, oa⟩]
            have tn := Deb.debC_cmp.flip a b
            have rg := Deb.debC_cmp.rng a b
            refine Ev.step (fun k => by rw [laws_FnDebianParts.j1, ip, iq]) ?_
            refine ev_neg (by simp) (sp.bind (ev_some (ev_some ?_)))
            refine ev_pos rfl (ev_pos rfl (ev_pos rfl ?_))
            rw [turned_f (Deb.debC a b) (Deb.debC b a) (by omega) (by omega) (by omega)]
            exact ev_some (Ev.now _)
end Go.Proofs.YtchnlfkdgajodaaDoor.Pure
