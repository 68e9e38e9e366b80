/- The statement FnBuildsOrder: what stands behind the numbers is in one order, for all texts.
   No condition beyond those that the statement itself states (its card ties the listed variables to the program's text). -/
import Derived.Test.YtfgechefinijbaaDoorLPsplit
import Derived.Test.YtfgechefinijbaaDoorLPasc2
import Derived.Test.YtfgechefinijbaaDoorZLP
namespace Go.Proofs.YtfgechefinijbaaDoor.Pure
open Go.RowKit Go.Proofs.YtfgechefinijbaaDoor.QL Go.Proofs.YtfgechefinijbaaDoorW.PrintWords Go.Proofs.YtfgechefinijbaaDoorW.PrintLast Go.Proofs.YtfgechefinijbaaDoor.Pk Go.Proofs.YtfgechefinijbaaDoor.Giv Go.Proofs.YtfgechefinijbaaDoor.Ord
theorem liked_small (s : ByteArray) (hs : s.size ≤ 1500) : (liked s.toList).length ≤ 1501 ∧ ∀ x ∈ liked s.toList, x.size ≤ 1500 := by
  have c := Cut.core_len s.toList
  rw [len_toList] at c
  unfold liked
  split
  · exact ⟨by simp, fun x h => absurd h (by simp)⟩
  · obtain ⟨a, b⟩ := Cut.cutAt_sizes 46 (Cut.core s.toList)
    refine ⟨by rw [List.length_map]; omega, fun x h => ?_⟩
    obtain ⟨y, hy, rfl⟩ := List.mem_map.1 h
    rw [bs_size]
    have := b y hy
    omega
theorem buildKnown_ev (s : ByteArray) (hs : s.size ≤ 1500) : ∃ b, Ev (fun k => spec_BuildKnown.f k s) b := by
  obtain ⟨l, z⟩ := liked_small s hs
  have e : Giv.spec_likeIdentifiers.f s = some (liked s.toList) := by unfold Giv.spec_likeIdentifiers.f; rw [if_pos (by omega)]
  have a := ascii_ev s (by omega)
  have i := idKnown_ev (liked s.toList) (by omega) (fun x h => by have := z x h; omega)
  unfold spec_BuildKnown.f
  cases h : ascB s with
  | false =>
    rw [h] at a
    exact ⟨false, a.bind (ev_neg (by simp) (Ev.now _))⟩
  | true =>
    rw [h] at a
    refine ⟨idK (liked s.toList), a.bind (ev_pos rfl ?_)⟩
    rw [e]
    exact ev_some (i.bind (Ev.now _))
theorem FnBuildsOrder : ∀ (a0 : ByteArray) (a1 : ByteArray) (a2 : ByteArray), a0.size ≤ 140737488351232 → a1.size ≤ 140737488351232 → a2.size ≤ 140737488351232 → ∃ k, laws_FnBuildsOrder.f k a0 a1 a2 = some true := by
  intro a b c _ _ _
  suffices h : Ev (fun k => laws_FnBuildsOrder.f k a b c) true from h.rounds
  have out : Ev (fun k => laws_FnBuildsOrder.j0 k a b c true) true := by
    refine Ev.step (fun k => by rw [laws_FnBuildsOrder.j0]) ?_
    exact ev_pos rfl (Ev.now _)
  have out1 : Ev (fun k => laws_FnBuildsOrder.j1 k a b c true) true := by
    refine Ev.step (fun k => by rw [laws_FnBuildsOrder.j1]) ?_
    exact ev_pos rfl (Ev.now _)
  unfold laws_FnBuildsOrder.f
  by_cases ha : (a.size : Int) > 2147483647
  · exact ev_pos ha out
  refine ev_neg ha ?_
  by_cases hb : (b.size : Int) > 2147483647
  · exact ev_pos hb out
  refine ev_neg hb ?_
  cases hc : decide ((c.size : Int) > 2147483647) with
  | true => exact out
  | false =>
  refine Ev.step (fun k => by rw [laws_FnBuildsOrder.j0]) ?_
  refine ev_neg (by simp) ((short_ev [a, b, c] (by simp)).bind ?_)
  cases sh : shortB [a, b, c] with
  | false => exact ev_neg (by simp) out1
  | true =>
  have z := short_sizes sh
  have za := z a (by simp)
  have zb := z b (by simp)
  have zc := z c (by simp)
  obtain ⟨ka, ea⟩ := buildKnown_ev a za
  obtain ⟨kb, eb⟩ := buildKnown_ev b zb
  obtain ⟨kc, ec⟩ := buildKnown_ev c zc
  refine ev_pos rfl (ea.bind ?_)
  cases ka with
  | false => exact ev_neg (by simp) out1
  | true =>
  refine ev_pos rfl (eb.bind ?_)
  cases kb with
  | false => exact ev_neg (by simp) out1
  | true =>
  refine ev_pos rfl (ec.bind ?_)
  cases kc with
  | false => exact out1
  | true =>
  refine Ev.step (fun k => by rw [laws_FnBuildsOrder.j1]) ?_
  refine ev_neg (by simp) ?_
  have m := Cut.buildC_cmp
  have len : ∀ s : ByteArray, s.size ≤ 1500 → s.toList.length ≤ 40000 := fun s h => by rw [len_toList]; omega
  have ib : ∀ x y : ByteArray, x.size ≤ 1500 → y.size ≤ 1500 → Ev (fun k => impl_Builds.f k x y) (Cut.buildC x.toList y.toList) := fun x y hx hy => by
    have := implBuilds x.toList y.toList (len x hx) (len y hy)
    rw [← bs_of x, ← bs_of y] at this
    exact this
  refine wordsAwake.bind (ev_pos rfl ((ib a a za za).bind ?_))
  refine ev_pos (m.self _) ((ib a b za zb).bind ((ib b c zb zc).bind ((ib a c za zc).bind ?_)))
  exact (chained_ev (m.chain _ _ _)).bind (Ev.now _)
end Go.Proofs.YtfgechefinijbaaDoor.Pure
