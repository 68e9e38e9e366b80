/- The statement FnIdentifiersOrder: lists of identifiers are in one order, for all lists of texts.
   No condition beyond those that the statement itself states (its card ties the listed variables to the program's text). -/
import Derived.Test.YtfgechefinijbaaDoorRPsplit
import Derived.Test.YtfgechefinijbaaDoorRPrub
import Derived.Test.YtfgechefinijbaaDoorZRP
namespace Go.Proofs.YtfgechefinijbaaDoor.Pure
open Go.RowKit Go.Proofs.YtfgechefinijbaaDoor.QR Go.Proofs.YtfgechefinijbaaDoorW.PrintWords Go.Proofs.YtfgechefinijbaaDoorW.PrintLast Go.Proofs.YtfgechefinijbaaDoor.Pk Go.Proofs.YtfgechefinijbaaDoor.Giv Go.Proofs.YtfgechefinijbaaDoor.Ord
theorem FnIdentifiersOrder : ∀ (l0 : List ByteArray) (l1 : List ByteArray) (l2 : List ByteArray), l0.length ≤ 9223372036854775807 → (∀ s ∈ l0, s.size ≤ 9223372036854775807) → l1.length ≤ 9223372036854775807 → (∀ s ∈ l1, s.size ≤ 9223372036854775807) → l2.length ≤ 9223372036854775807 → (∀ s ∈ l2, s.size ≤ 9223372036854775807) → ∃ k, laws_FnIdentifiersOrder.f k l0 l1 l2 = some true := by
  intro a b c _ _ _ _ _ _
  suffices h : Ev (fun k => laws_FnIdentifiersOrder.f k a b c) true from h.rounds
  have out : Ev (fun k => laws_FnIdentifiersOrder.j0 k a b c true) true := by
    refine Ev.step (fun k => by rw [laws_FnIdentifiersOrder.j0]) ?_
    exact ev_pos rfl (Ev.now _)
  have out1 : Ev (fun k => laws_FnIdentifiersOrder.j1 k a b c true) true := by
    refine Ev.step (fun k => by rw [laws_FnIdentifiersOrder.j1]) ?_
    exact ev_pos rfl (Ev.now _)
  unfold laws_FnIdentifiersOrder.f
  obtain ⟨fa, ea, ha⟩ := fits_ev a
  obtain ⟨fb, eb, hb⟩ := fits_ev b
  obtain ⟨fc, ec, hc⟩ := fits_ev c
  refine ea.bind ?_
  cases fa with
  | false => exact ev_neg (by simp) out
  | true =>
  refine ev_pos rfl (eb.bind ?_)
  cases fb with
  | false => exact ev_neg (by simp) out
  | true =>
  refine ev_pos rfl (ec.bind ?_)
  cases fc with
  | false => exact out
  | true =>
  have la := ha rfl
  have lb := hb rfl
  have lc := hc rfl
  refine Ev.step (fun k => by rw [laws_FnIdentifiersOrder.j0]) ?_
  refine ev_neg (by simp) ((short_ev a (by omega)).bind ?_)
  cases sa : shortB a with
  | false => exact ev_neg (by simp) out1
  | true =>
  refine ev_pos rfl ((short_ev b (by omega)).bind ?_)
  cases sb : shortB b with
  | false => exact ev_neg (by simp) out1
  | true =>
  refine ev_pos rfl ((short_ev c (by omega)).bind ?_)
  cases sc : shortB c with
  | false => exact ev_neg (by simp) out1
  | true =>
  refine ev_pos rfl ((idKnown_ev a (small_of sa).1 (small_of sa).2).bind ?_)
  cases idK a with
  | false => exact ev_neg (by simp) out1
  | true =>
  refine ev_pos rfl ((idKnown_ev b (small_of sb).1 (small_of sb).2).bind ?_)
  cases idK b with
  | false => exact ev_neg (by simp) out1
  | true =>
  refine ev_pos rfl ((idKnown_ev c (small_of sc).1 (small_of sc).2).bind ?_)
  cases idK c with
  | false => exact out1
  | true =>
  refine Ev.step (fun k => by rw [laws_FnIdentifiersOrder.j1]) ?_
  refine ev_neg (by simp) ?_
  have m := lexL_cmp Seg.idC_cmp
  rw [implIds' (fit_of sa) (fit_of sa), implIds' (fit_of sa) (fit_of sb), implIds' (fit_of sb) (fit_of sc), implIds' (fit_of sa) (fit_of sc)]
  refine wordsAwake.bind (ev_pos rfl (ev_some (ev_pos (m.self _) (ev_some (ev_some (ev_some ?_))))))
  exact (chained_ev (m.chain _ _ _)).bind (Ev.now _)
end Go.Proofs.YtfgechefinijbaaDoor.Pure
