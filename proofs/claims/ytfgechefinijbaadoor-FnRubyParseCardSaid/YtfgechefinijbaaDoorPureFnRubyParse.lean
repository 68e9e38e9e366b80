/- The statement FnRubyParse: which segments a version of RubyGems has, for all texts.
   No condition beyond those that the statement itself states (its card ties the listed variables to the program's text). -/
import Derived.Test.YtfgechefinijbaaDoorUPruby2
import Derived.Test.YtfgechefinijbaaDoorZUU
namespace Go.Proofs.YtfgechefinijbaaDoor.Pure
open Go.RowKit Go.Proofs.YtfgechefinijbaaDoor.QU Go.Proofs.YtfgechefinijbaaDoorW.PrintWords Go.Proofs.YtfgechefinijbaaDoorW.PrintLast Go.Proofs.YtfgechefinijbaaDoor.Pk Go.Proofs.YtfgechefinijbaaDoor.Giv Go.Proofs.YtfgechefinijbaaDoor.Ord
theorem FnRubyParse : ∀ (a0 : ByteArray), a0.size ≤ 140737488351232 → ∃ k, laws_FnRubyParse.f k a0 = some true := by
  intro a _
  suffices h : Ev (fun k => laws_FnRubyParse.f k a) true from h.rounds
  have out : Ev (fun k => laws_FnRubyParse.j0 k a true) true := by
    refine Ev.step (fun k => by rw [laws_FnRubyParse.j0]) ?_
    exact ev_pos rfl (Ev.now _)
  unfold laws_FnRubyParse.f
  by_cases hz : (a.size : Int) > 2147483647
  · exact ev_pos hz (Ev.now _)
  refine ev_neg hz ((short_ev [a] (by simp)).bind ?_)
  cases sh : shortB [a] with
  | false => exact ev_neg (by simp) out
  | true =>
  have za := short_sizes sh a (by simp)
  refine ev_pos rfl ((rubyKnown_ev a za).bind ?_)
  cases kn : rubyK a with
  | false => exact out
  | true =>
  refine Ev.step (fun k => by rw [laws_FnRubyParse.j0]) ?_
  refine ev_neg (by simp) ((implParse_ev a za).bind ((specParse_ev a za (rubyK_asc kn)).bind ?_))
  have l := QR.segs_len a
  have p := (QR.pieces_small a za).1
  have t := texts_ev (QR.rubySegs a) (QR.rubySegs a) (by omega)
  rw [decide_eq_true rfl] at t
  exact t.bind (Ev.now _)
end Go.Proofs.YtfgechefinijbaaDoor.Pure
