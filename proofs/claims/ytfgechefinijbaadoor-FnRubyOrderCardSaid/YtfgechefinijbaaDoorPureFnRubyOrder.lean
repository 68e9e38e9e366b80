/- The statement FnRubyOrder: versions of RubyGems are in one order, for all texts.
   No condition beyond those that the statement itself states (its card ties the listed variables to the program's text). -/
import Derived.Test.YtfgechefinijbaaDoorVPruby
namespace Go.Proofs.YtfgechefinijbaaDoor.Pure
open Go.RowKit Go.Proofs.YtfgechefinijbaaDoor.QV Go.Proofs.YtfgechefinijbaaDoorW.PrintWords Go.Proofs.YtfgechefinijbaaDoorW.PrintLast Go.Proofs.YtfgechefinijbaaDoor.Pk Go.Proofs.YtfgechefinijbaaDoor.Giv Go.Proofs.YtfgechefinijbaaDoor.Ord
theorem FnRubyOrder : ∀ (a0 : ByteArray) (a1 : ByteArray) (a2 : ByteArray), a0.size ≤ 140737488351232 → a1.size ≤ 140737488351232 → a2.size ≤ 140737488351232 → ∃ k, laws_FnRubyOrder.f k a0 a1 a2 = some true := by
  intro a b c _ _ _
  suffices h : Ev (fun k => laws_FnRubyOrder.f k a b c) true from h.rounds
  have out : Ev (fun k => laws_FnRubyOrder.j0 k a b c true) true := by
    refine Ev.step (fun k => by rw [laws_FnRubyOrder.j0]) ?_
    exact ev_pos rfl (Ev.now _)
  have out1 : Ev (fun k => laws_FnRubyOrder.j1 k a b c true) true := by
    refine Ev.step (fun k => by rw [laws_FnRubyOrder.j1]) ?_
    exact ev_pos rfl (Ev.now _)
  unfold laws_FnRubyOrder.f
  by_cases ha : (a.size : Int) > 2147483647
  · exact ev_pos ha out
  refine ev_neg ha ?_
  by_cases hb : (b.size : Int) > 2147483647
  · exact ev_pos hb out
  refine ev_neg hb ?_
  cases hc : decide ((c.size : Int) > 2147483647) with
  | true => exact out
  | false =>
  refine Ev.step (fun k => by rw [laws_FnRubyOrder.j0]) ?_
  refine ev_neg (by simp) ((short_ev [a, b, c] (by simp)).bind ?_)
  cases sh : shortB [a, b, c] with
  | false => exact ev_neg (by simp) out1
  | true =>
  have z := short_sizes sh
  have za := z a (by simp)
  have zb := z b (by simp)
  have zc := z c (by simp)
  refine ev_pos rfl ((rubyKnown_ev a za).bind ?_)
  cases rubyK a with
  | false => exact ev_neg (by simp) out1
  | true =>
  refine ev_pos rfl ((rubyKnown_ev b zb).bind ?_)
  cases rubyK b with
  | false => exact ev_neg (by simp) out1
  | true =>
  refine ev_pos rfl ((rubyKnown_ev c zc).bind ?_)
  cases rubyK c with
  | false => exact out1
  | true =>
  refine Ev.step (fun k => by rw [laws_FnRubyOrder.j1]) ?_
  refine ev_neg (by simp) ?_
  have m := (padL_cmp Seg.segC_cmp [48]).key (fun s : ByteArray => tl (QR.rubySegs s))
  refine (rubyCmp_ev a b za zb).bind ((rubyCmp_ev b c zb zc).bind ((rubyCmp_ev a c za zc).bind ((rubyCmp_ev a a za za).bind ?_)))
  refine ev_pos rfl (ev_pos rfl (ev_pos rfl (ev_pos rfl (ev_pos (m.self a) ?_))))
  exact (chained_ev (m.chain a b c)).bind (Ev.now _)
end Go.Proofs.YtfgechefinijbaaDoor.Pure
