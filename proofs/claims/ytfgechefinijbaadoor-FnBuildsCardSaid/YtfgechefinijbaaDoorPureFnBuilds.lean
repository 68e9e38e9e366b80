/- The statement FnBuilds: how what stands behind the numbers compares, for all texts.
   No condition beyond those that the statement itself states (its card ties the listed variables to the program's text). -/
import Derived.Test.YtfgechefinijbaaDoorLPids
import Derived.Test.YtfgechefinijbaaDoorLPasc2
import Derived.Test.YtfgechefinijbaaDoorZLP
namespace Go.Proofs.YtfgechefinijbaaDoor.Pure
open Go.RowKit Go.Proofs.YtfgechefinijbaaDoor.QL Go.Proofs.YtfgechefinijbaaDoorW.PrintWords Go.Proofs.YtfgechefinijbaaDoorW.PrintLast Go.Proofs.YtfgechefinijbaaDoor.Pk Go.Proofs.YtfgechefinijbaaDoor.Giv Go.Proofs.YtfgechefinijbaaDoor.Ord
theorem buildK_ev (s : ByteArray) (hs : s.size ≤ 1500) : ∃ b, Ev (fun k => spec_BuildKnown.f k s) b ∧ (b = true → idK (liked s.toList) = true) := by
  obtain ⟨l, z⟩ := liked_small s hs
  have e : Giv.spec_likeIdentifiers.f s = some (liked s.toList) := by unfold Giv.spec_likeIdentifiers.f; rw [if_pos (by omega)]
  have a := ascii_ev s (by omega)
  have i := idKnown_ev (liked s.toList) (by omega) (fun x h => by have := z x h; omega)
  unfold spec_BuildKnown.f
  cases h : ascB s with
  | false =>
    rw [h] at a
    exact ⟨false, a.bind (ev_neg (by simp) (Ev.now _)), fun h => absurd h (by simp)⟩
  | true =>
    rw [h] at a
    refine ⟨idK (liked s.toList), a.bind (ev_pos rfl ?_), fun h => h⟩
    rw [e]
    exact ev_some (i.bind (Ev.now _))
theorem FnBuilds : ∀ (a0 : ByteArray) (a1 : ByteArray), a0.size ≤ 140737488351232 → a1.size ≤ 140737488351232 → ∃ k, laws_FnBuilds.f k a0 a1 = some true := by
  intro a b _ _
  suffices h : Ev (fun k => laws_FnBuilds.f k a b) true from h.rounds
  have out : Ev (fun k => laws_FnBuilds.j0 k a b true) true := by
    refine Ev.step (fun k => by rw [laws_FnBuilds.j0]) ?_
    exact ev_pos rfl (Ev.now _)
  have out1 : Ev (fun k => laws_FnBuilds.j1 k a b true) true := by
    refine Ev.step (fun k => by rw [laws_FnBuilds.j1]) ?_
    exact ev_pos rfl (Ev.now _)
  unfold laws_FnBuilds.f
  by_cases ha : (a.size : Int) > 2147483647
  · exact ev_pos ha out
  refine ev_neg ha ?_
  cases hb : decide ((b.size : Int) > 2147483647) with
  | true => exact out
  | false =>
  refine Ev.step (fun k => by rw [laws_FnBuilds.j0]) ?_
  refine ev_neg (by simp) ((short_ev [a, b] (by simp)).bind ?_)
  cases sh : shortB [a, b] with
  | false => exact ev_neg (by simp) out1
  | true =>
  have z := short_sizes sh
  have za := z a (by simp)
  have zb := z b (by simp)
  obtain ⟨ka, ea, ia⟩ := buildK_ev a za
  obtain ⟨kb, eb, ib⟩ := buildK_ev b zb
  refine ev_pos rfl (ea.bind ?_)
  cases ka with
  | false => exact ev_neg (by simp) out1
  | true =>
  refine ev_pos rfl (eb.bind ?_)
  cases kb with
  | false => exact out1
  | true =>
  refine Ev.step (fun k => by rw [laws_FnBuilds.j1]) ?_
  refine ev_neg (by simp) ?_
  have m := Cut.buildC_cmp
  have fl := m.flip a.toList b.toList
  have rg := m.rng a.toList b.toList
  have len : ∀ s : ByteArray, s.size ≤ 1500 → s.toList.length ≤ 40000 := fun s h => by rw [len_toList]; omega
  have im : ∀ x y : ByteArray, x.size ≤ 1500 → y.size ≤ 1500 → Ev (fun k => impl_Builds.f k x y) (Cut.buildC x.toList y.toList) := fun x y hx hy => by
    have := implBuilds x.toList y.toList (len x hx) (len y hy)
    rw [← bs_of x, ← bs_of y] at this
    exact this
  have sp := specBuilds_ev a b za zb (ia rfl) (ib rfl)
  have i1 := im a b za zb
  have i2 := im b a zb za
  rw [fl] at i2
  generalize Cut.buildC a.toList b.toList = r at *
  refine i1.bind (sp.bind (ev_pos rfl (i2.bind ?_)))
  have t : laws_turned.f r (-r) = some true := by
    unfold laws_turned.f
    have w : wrap64 (- -r) = r := by unfold wrap64; omega
    rw [w, if_pos rfl, if_pos (by omega), decide_eq_true (by omega)]
  rw [t]
  exact ev_some (Ev.now _)
end Go.Proofs.YtfgechefinijbaaDoor.Pure
