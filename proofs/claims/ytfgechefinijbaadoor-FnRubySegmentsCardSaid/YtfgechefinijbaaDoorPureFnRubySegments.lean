/- The statement FnRubySegments: how lists of segments compare, for all lists of texts.
   No condition beyond those that the statement itself states (its card ties the listed variables to the program's text). -/
import Derived.Test.YtfgechefinijbaaDoorZRP
namespace Go.Proofs.YtfgechefinijbaaDoor.Pure
open Go.RowKit Go.Proofs.YtfgechefinijbaaDoor.QR Go.Proofs.YtfgechefinijbaaDoorW.PrintWords Go.Proofs.YtfgechefinijbaaDoorW.PrintLast Go.Proofs.YtfgechefinijbaaDoor.Pk Go.Proofs.YtfgechefinijbaaDoor.Giv Go.Proofs.YtfgechefinijbaaDoor.Ord
theorem FnRubySegments : ∀ (l0 : List ByteArray) (l1 : List ByteArray), l0.length ≤ 9223372036854775807 → (∀ s ∈ l0, s.size ≤ 9223372036854775807) → l1.length ≤ 9223372036854775807 → (∀ s ∈ l1, s.size ≤ 9223372036854775807) → ∃ k, laws_FnRubySegments.f k l0 l1 = some true := by
  intro a b _ _ _ _
  suffices h : Ev (fun k => laws_FnRubySegments.f k a b) true from h.rounds
  have out : Ev (fun k => laws_FnRubySegments.j0 k a b true) true := by
    refine Ev.step (fun k => by rw [laws_FnRubySegments.j0]) ?_
    exact ev_pos rfl (Ev.now _)
  have out1 : Ev (fun k => laws_FnRubySegments.j1 k a b true) true := by
    refine Ev.step (fun k => by rw [laws_FnRubySegments.j1]) ?_
    exact ev_pos rfl (Ev.now _)
  unfold laws_FnRubySegments.f
  obtain ⟨fa, ea, ha⟩ := fits_ev a
  obtain ⟨fb, eb, hb⟩ := fits_ev b
  refine ea.bind ?_
  cases fa with
  | false => exact ev_neg (by simp) out
  | true =>
  refine ev_pos rfl (eb.bind ?_)
  cases fb with
  | false => exact out
  | true =>
  have la := ha rfl
  have lb := hb rfl
  refine Ev.step (fun k => by rw [laws_FnRubySegments.j0]) ?_
  refine ev_neg (by simp) ((short_ev a (by omega)).bind ?_)
  cases sa : shortB a with
  | false => exact ev_neg (by simp) out1
  | true =>
  refine ev_pos rfl ((short_ev b (by omega)).bind ?_)
  cases sb : shortB b with
  | false => exact ev_neg (by simp) out1
  | true =>
  refine ev_pos rfl ((rbKnown_ev a (small_of sa).1 (small_of sa).2).bind ?_)
  cases ka : rbK a with
  | false => exact ev_neg (by simp) out1
  | true =>
  refine ev_pos rfl ((rbKnown_ev b (small_of sb).1 (small_of sb).2).bind ?_)
  cases kb : rbK b with
  | false => exact out1
  | true =>
  refine Ev.step (fun k => by rw [laws_FnRubySegments.j1]) ?_
  refine ev_neg (by simp) ?_
  have m := padL_cmp Seg.segC_cmp [48]
  have fl := m.flip (tl a) (tl b)
  have rg := m.rng (tl a) (tl b)
  have s := specRuby_ev a b (small_of sa).1 (small_of sb).1 (small_of sa).2 (small_of sb).2
  rw [specRuby_same a b (rbK_id ka) (rbK_id kb)] at s
  rw [implRuby (fit_of sa) (fit_of sb), implRuby (fit_of sb) (fit_of sa), fl]
  generalize padL Seg.segC [48] (tl a) (tl b) = r at *
  refine ev_some (s.bind (ev_pos rfl (ev_some ?_)))
  have t : laws_turned.f r (-r) = some true := by
    unfold laws_turned.f
    have w : wrap64 (- -r) = r := by unfold wrap64; omega
    rw [w, if_pos rfl, if_pos (by omega), decide_eq_true (by omega)]
  rw [t]
  exact ev_some (Ev.now _)
end Go.Proofs.YtfgechefinijbaaDoor.Pure
