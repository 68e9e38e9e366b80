/- The statement FnGem: versions as Gem::Version takes them compare as it compares them, for all texts.
   No condition beyond those that the statement itself states (its card ties the listed variables to the program's text). -/
import Derived.Test.YtfgechefinijbaaDoorZGG
namespace Go.Proofs.YtfgechefinijbaaDoor.Pure
open Go.RowKit Go.Proofs.YtfgechefinijbaaDoor.QG Go.Proofs.YtfgechefinijbaaDoorW.PrintWords Go.Proofs.YtfgechefinijbaaDoorW.PrintLast Go.Proofs.YtfgechefinijbaaDoor.Pk Go.Proofs.YtfgechefinijbaaDoor.Giv Go.Proofs.YtfgechefinijbaaDoor.Ord
theorem FnGem : ∀ (a0 : ByteArray) (a1 : ByteArray), a0.size ≤ 140737488351232 → a1.size ≤ 140737488351232 → ∃ k, laws_FnGem.f k a0 a1 = some true := by
  intro a b _ _
  suffices h : Ev (fun k => laws_FnGem.f k a b) true from h.rounds
  have out : Ev (fun k => laws_FnGem.j0 k a b true) true := by
    refine Ev.step (fun k => by rw [laws_FnGem.j0]) ?_
    exact ev_pos rfl (Ev.now _)
  have out1 : Ev (fun k => laws_FnGem.j1 k a b true) true := by
    refine Ev.step (fun k => by rw [laws_FnGem.j1]) ?_
    exact ev_pos rfl (Ev.now _)
  unfold laws_FnGem.f
  by_cases ha : (a.size : Int) > 2147483647
  · exact ev_pos ha out
  refine ev_neg ha ?_
  cases hb : decide ((b.size : Int) > 2147483647) with
  | true => exact out
  | false =>
  refine Ev.step (fun k => by rw [laws_FnGem.j0]) ?_
  refine ev_neg (by simp) ((short_ev [a, b] (by simp)).bind ?_)
  cases sh : shortB [a, b] with
  | false => exact ev_neg (by simp) out1
  | true =>
  have z := short_sizes sh
  have za := z a (by simp)
  have zb := z b (by simp)
  obtain ⟨va, ea, ia⟩ := gemValid_ev a za
  obtain ⟨vb, eb, ib⟩ := gemValid_ev b zb
  refine ev_pos rfl (ea.bind ?_)
  cases va with
  | false => exact ev_neg (by simp) out1
  | true =>
  refine ev_pos rfl (eb.bind ?_)
  cases vb with
  | false => exact out1
  | true =>
  refine Ev.step (fun k => by rw [laws_FnGem.j1]) ?_
  refine ev_neg (by simp) ((rubyCmp_ev a b za zb).bind ((rubyText_ev a b za zb).bind (ev_pos rfl (ev_pos rfl ((gemCompare_ev a b za zb (ia rfl).1 (ib rfl).1 (ia rfl).2 (ib rfl).2).bind (ev_pos rfl ?_))))))
  have e : ((padL Seg.segC [48] (tl (QR.rubySegs a)) (tl (QR.rubySegs b))) == (padL Seg.segC [48] (tl (QR.rubySegs a)) (tl (QR.rubySegs b)))) = true := beq_iff_eq.2 rfl
  show Ev (fun _ => some _) true
  rw [e]
  exact Ev.now _
end Go.Proofs.YtfgechefinijbaaDoor.Pure
