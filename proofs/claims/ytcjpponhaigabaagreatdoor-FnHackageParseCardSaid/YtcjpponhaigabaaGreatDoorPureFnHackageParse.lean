/- The statement FnHackageParse: which texts are versions of Hackage, and their numbers, for all texts.
   No condition beyond those that the statement itself states (its card ties the listed variables to the program's text). -/
import Derived.Test.YtcjpponhaigabaaGreatDoorZHP
import Derived.Test.YtcjpponhaigabaaGreatDoorZHN
namespace Go.Proofs.YtcjpponhaigabaaGreatDoor.Pure
open Go.RowKit Go.Proofs.YtcjpponhaigabaaGreatDoor.QH Go.Proofs.YtcjpponhaigabaaGreatDoorW.PrintWords Go.Proofs.YtcjpponhaigabaaGreatDoorW.PrintLast Go.Proofs.YtcjpponhaigabaaGreatDoor.Pk Go.Proofs.YtcjpponhaigabaaGreatDoor.Giv Go.Proofs.YtcjpponhaigabaaGreatDoor.Ord
theorem FnHackageParse : laws_FnHackageParse.Pure := by
  intro s _
  suffices h : Ev (fun k => laws_FnHackageParse.f k s) true from h.rounds
  have out : Ev (fun k => laws_FnHackageParse.j0 k s true) true := by
    refine Ev.step (fun k => by rw [laws_FnHackageParse.j0]) ?_
    exact ev_pos rfl (Ev.now _)
  unfold laws_FnHackageParse.f
  by_cases hs : (s.size : Int) > 2147483647
  · exact ev_pos hs (Ev.now _)
  refine ev_neg hs ((short_ev [s] (by simp)).bind ?_)
  cases sh : shortB [s] with
  | false => exact ev_neg (by simp) out
  | true =>
  have zs := short_sizes sh s (by simp)
  have kn : spec_HackageKnown.f s = some (Lib.validD s.toList) := by
    unfold spec_HackageKnown.f spec_LikeKnown.f Giv.utf8_ValidString.f
    rw [if_pos (by omega)]
    rfl
  rw [kn]
  refine ev_pos rfl (ev_some ?_)
  cases hv : Lib.validD s.toList with
  | false => exact out
  | true =>
  have pv := Slk.parseR_valid s hv
  have sp := likeParse_ev s (by omega)
  have ll : (pn (Slk.parse s.toList).1).length < 4611686018427387904 := by
    unfold pn
    rw [List.length_map, ← pv]
    have := parseR_len s (by omega)
    omega
  have ie := ints_ev (pn (Slk.parse s.toList).1) ll
  refine Ev.step (fun k => by rw [laws_FnHackageParse.j0]) ?_
  refine ev_neg (by simp) ?_
  by_cases h0 : (Slk.parse s.toList).2 = []
  · have im : Giv.impl_HackageParse.f s = some (Slk.lead s.toList, pn (Slk.parse s.toList).1, ⟨#[]⟩, s, true) := by
      unfold Giv.impl_HackageParse.f
      rw [if_pos (by omega), pv, if_pos h0]
    have sh : Ev (fun k => spec_HackageParse.f k s) (Slk.lead s.toList, pn (Slk.parse s.toList).1, ⟨#[]⟩, s, true) := by
      unfold spec_HackageParse.f
      refine sp.bind (ev_pos (by rw [bs_toList]; exact h0) ?_)
      rw [h0]
      exact Ev.now _
    rw [im]
    refine ev_some (sh.bind (ev_pos (beq_self_eq_true _) (ev_pos (beq_self_eq_true _) (ie.bind (ev_pos rfl (ev_pos rfl ?_))))))
    show Ev (fun _ => some (s.toList == s.toList)) true
    rw [beq_self_eq_true]
    exact Ev.now _
  · have im : Giv.impl_HackageParse.f s = some (false, [], ⟨#[]⟩, ⟨#[]⟩, false) := by
      unfold Giv.impl_HackageParse.f
      rw [if_pos (by omega), pv, if_neg h0]
    have sh : Ev (fun k => spec_HackageParse.f k s) (false, [], ⟨#[]⟩, ⟨#[]⟩, false) := by
      unfold spec_HackageParse.f
      exact sp.bind (ev_neg (by rw [bs_toList]; exact h0) (Ev.now _))
    rw [im]
    refine ev_some (sh.bind (ev_pos (beq_self_eq_true _) (ev_pos (beq_self_eq_true _) ((ints_ev [] (by simp)).bind (ev_pos rfl (ev_pos rfl ?_))))))
    show Ev (fun _ => some ((⟨#[]⟩ : ByteArray).toList == (⟨#[]⟩ : ByteArray).toList)) true
    rw [beq_self_eq_true]
    exact Ev.now _
end Go.Proofs.YtcjpponhaigabaaGreatDoor.Pure
