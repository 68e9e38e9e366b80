/- 'chained': three answers are those of an order. -/
import Derived.Test.YtcaeghgbeldlaaaPk
import Derived.Test.YtcaeghgbeldlaaaQAx
namespace Go.Proofs.Ytcaeghgbeldlaaa.QA
open Go.RowKit Go.Proofs.YtcaeghgbeldlaaaW.PrintWords Go.Proofs.YtcaeghgbeldlaaaW.PrintLast Go.Proofs.Ytcaeghgbeldlaaa.Pk Go.Proofs.Ytcaeghgbeldlaaa.Giv Go.Proofs.Ytcaeghgbeldlaaa.Ord
set_option linter.unusedVariables false
theorem bne_ff {a b : Int} (h : a = 0 ↔ b = 0) : ((a == 0) != (b == 0)) = false := by
  by_cases z : a = 0
  · rw [z, h.1 z]
    rfl
  · have z' : b ≠ 0 := fun e => z (h.2 e)
    rw [beq_false_of_ne z, beq_false_of_ne z']
    rfl
theorem bne_f {a : Int} (h : a ≠ 0) : ((a == 0) != false) = false := by
  rw [beq_false_of_ne h]
  rfl
theorem chained_j {ab bc ac : Int} (h : Chain ab bc ac) : Ev (fun k => laws_chained.j0 k ab bc ac false) true := by
  refine Ev.step (fun k => by rw [laws_chained.j0]) ?_
  refine ev_neg (by simp) ?_
  by_cases h1 : ab ≥ 0
  · refine ev_pos h1 ?_
    by_cases h2 : bc ≥ 0
    · have c := h.2 h1 h2
      refine ev_pos h2 (ev_neg (by omega) ?_)
      by_cases z : ab = 0
      · refine ev_pos z (ev_neg ?_ (Ev.now _))
        rw [bne_ff (by rw [c.2]; exact ⟨fun h => h.2, fun h => ⟨z, h⟩⟩)]
        simp
      · refine ev_neg z (ev_neg ?_ (Ev.now _))
        rw [bne_f (fun e => z (c.2.1 e).1)]
        simp
    · exact ev_neg h2 (Ev.now _)
  · exact ev_neg h1 (Ev.now _)
theorem chained_ev {ab bc ac : Int} (h : Chain ab bc ac) : Ev (fun k => laws_chained.f k ab bc ac) true := by
  unfold laws_chained.f
  by_cases h1 : ab ≤ 0
  · refine ev_pos h1 ?_
    by_cases h2 : bc ≤ 0
    · have c := h.1 h1 h2
      refine ev_pos h2 (ev_neg (by omega) ?_)
      by_cases z : ab = 0
      · refine ev_pos z ?_
        rw [bne_ff (by rw [c.2]; exact ⟨fun h => h.2, fun h => ⟨z, h⟩⟩)]
        exact chained_j h
      · refine ev_neg z ?_
        rw [bne_f (fun e => z (c.2.1 e).1)]
        exact chained_j h
    · exact ev_neg h2 (chained_j h)
  · exact ev_neg h1 (chained_j h)
end Go.Proofs.Ytcaeghgbeldlaaa.QA
