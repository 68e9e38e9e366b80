/- The statement FnRubySegmentsOrder: lists of segments are in one order, for all lists of texts.
   No condition beyond those that the statement itself states (its card ties the listed variables to the program's text). -/
import Derived.Test.YtfgechefinijbaaDoorZRP
namespace Go.Proofs.YtfgechefinijbaaDoor.Pure
open Go.RowKit Go.Proofs.YtfgechefinijbaaDoor.QR Go.Proofs.YtfgechefinijbaaDoorW.PrintWords Go.Proofs.YtfgechefinijbaaDoorW.PrintLast Go.Proofs.YtfgechefinijbaaDoor.Pk Go.Proofs.YtfgechefinijbaaDoor.Giv Go.Proofs.YtfgechefinijbaaDoor.Ord
theorem FnRubySegmentsOrder : ∀ (l0 : List ByteArray) (l1 : List ByteArray) (l2 : List ByteArray), l0.length ≤ 9223372036854775807 → (∀ s ∈ l0, s.size ≤ 9223372036854775807) → l1.length ≤ 9223372036854775807 → (∀ s ∈ l1, s.size ≤ 9223372036854775807) → l2.length ≤ 9223372036854775807 → (∀ s ∈ l2, s.size ≤ 9223372036854775807) → ∃ k, laws_FnRubySegmentsOrder.f k l0 l1 l2 = some true := by
  intro a b c _ _ _ _ _ _
  suffices h : Ev (fun k => laws_FnRubySegmentsOrder.f k a b c) true from h.rounds
  have out : Ev (fun k => laws_FnRubySegmentsOrder.j0 k a b c true) true := by
    refine Ev.step (fun k => by rw [laws_FnRubySegmentsOrder.j0]) ?_
    exact ev_pos rfl (Ev.now _)
  have out1 : Ev (fun k => laws_FnRubySegmentsOrder.j1 k a b c true) true := by
    refine Ev.step (fun k => by rw [laws_FnRubySegmentsOrder.j1]) ?_
    exact ev_pos rfl (Ev.now _)
  unfold laws_FnRubySegmentsOrder.f
  obtain ⟨fa, ea, ha⟩ := fits_ev a
  obtain ⟨fb, eb, hb⟩ := fits_ev b
  obtain ⟨fc, ec, hc⟩ := fits_ev c
  refine ea.bind ?_
  cases fa with
  | false => exact ev_neg (by simp) out
  | true =>
  refine ev_pos rfl (eb.bind ?_)
  cases fb with
  | false => exact ev_neg (by simp) out
  | true =>
  refine ev_pos rfl (ec.bind ?_)
  cases fc with
  | false => exact out
  | true =>
  have la := ha rfl
  have lb := hb rfl
  have lc := hc rfl
  refine Ev.step (fun k => by rw [laws_FnRubySegmentsOrder.j0]) ?_
  refine ev_neg (by simp) ((short_ev a (by omega)).bind ?_)
  cases sa : shortB a with
  | false => exact ev_neg (by simp) out1
  | true =>
  refine ev_pos rfl ((short_ev b (by omega)).bind ?_)
  cases sb : shortB b with
  | false => exact ev_neg (by simp) out1
  | true =>
  refine ev_pos rfl ((short_ev c (by omega)).bind ?_)
  cases sc : shortB c with
  | false => exact ev_neg (by simp) out1
  | true =>
  refine ev_pos rfl ((rbKnown_ev a (small_of sa).1 (small_of sa).2).bind ?_)
  cases rbK a with
  | false => exact ev_neg (by simp) out1
  | true =>
  refine ev_pos rfl ((rbKnown_ev b (small_of sb).1 (small_of sb).2).bind ?_)
  cases rbK b with
  | false => exact ev_neg (by simp) out1
  | true =>
  refine ev_pos rfl ((rbKnown_ev c (small_of sc).1 (small_of sc).2).bind ?_)
  cases rbK c with
  | false => exact out1
  | true =>
  refine Ev.step (fun k => by rw [laws_FnRubySegmentsOrder.j1]) ?_
  refine ev_neg (by simp) ?_
  have m := padL_cmp Seg.segC_cmp [48]
  rw [rubyAwake, implRuby (fit_of sa) (fit_of sa), implRuby (fit_of sa) (fit_of sb), implRuby (fit_of sb) (fit_of sc), implRuby (fit_of sa) (fit_of sc)]
  refine ev_some (ev_pos rfl (ev_some (ev_pos (m.self _) (ev_some (ev_some (ev_some ?_))))))
  exact (chained_ev (m.chain _ _ _)).bind (Ev.now _)
end Go.Proofs.YtfgechefinijbaaDoor.Pure
