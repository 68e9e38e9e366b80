/- 'digits' of a text: digits alone, one at least. -/
import Derived.Test.YtmbgkdklgdkikaaDoorZD
import Derived.Test.YtmbgkdklgdkikaaDoorQPx
namespace Go.Proofs.YtmbgkdklgdkikaaDoor.QP
open Go.RowKit Go.Proofs.YtmbgkdklgdkikaaDoorW.PrintWords Go.Proofs.YtmbgkdklgdkikaaDoorW.PrintLast Go.Proofs.YtmbgkdklgdkikaaDoor.Pk Go.Proofs.YtmbgkdklgdkikaaDoor.Giv
set_option linter.unusedVariables false
theorem digits_loop (r : List UInt8) : ∀ pre : List UInt8, pre.length + r.length < 4611686018427387904 → Ev (fun k => laws_digits.l0 k (bs (pre ++ r)) (pre.length : Int)) (r.all Rpm.dig && !(pre ++ r).isEmpty) := by
  induction r with
  | nil =>
    intro pre hs
    refine Ev.step (fun k => by rw [laws_digits.l0]) ?_
    refine ev_neg (by rw [bs_size]; simp) ?_
    have e : ((bs (pre ++ [])).toList != ([] : List UInt8)) = ([].all Rpm.dig && !(pre ++ []).isEmpty) := by
      rw [bs_toList, Bool.eq_iff_iff]
      simp
    rw [← e]
    exact Ev.now _
  | cons c r ih =>
    intro pre hs
    simp only [List.length_cons] at hs
    have hb := bs_bt (pre ++ c :: r) pre.length (by simp)
    rw [List.getElem_append_right (Nat.le_refl _)] at hb
    simp only [Nat.sub_self, List.getElem_cons_zero] at hb
    have w := wr pre.length (by omega)
    have z := ih (pre ++ [c]) (by simp; omega)
    rw [show (pre ++ [c]) ++ r = pre ++ c :: r by simp, show (pre ++ [c]).length = pre.length + 1 by simp] at z
    refine Ev.step (fun k => by rw [laws_digits.l0, hb, w]) ?_
    refine ev_pos (by rw [bs_size, List.length_append, List.length_cons]; omega) (ev_pos (by omega) ?_)
    rw [List.all_cons]
    by_cases h1 : (c.toNat : Int) < 48
    · refine ev_pos h1 ?_
      have : Rpm.dig c = false := by unfold Rpm.dig; rw [decide_eq_false_iff_not]; omega
      rw [this]
      exact Ev.now _
    · refine ev_neg h1 ?_
      by_cases h2 : (c.toNat : Int) > 57
      · refine ev_pos h2 ?_
        have : Rpm.dig c = false := by unfold Rpm.dig; rw [decide_eq_false_iff_not]; omega
        rw [this]
        exact Ev.now _
      · refine ev_neg h2 ?_
        have : Rpm.dig c = true := by unfold Rpm.dig; rw [decide_eq_true_eq]; omega
        rw [this, Bool.true_and]
        exact z
theorem digits_ev (l : List UInt8) (h : l.length < 4611686018427387904) : Ev (fun k => laws_digits.f k (bs l)) (l.all Rpm.dig && !l.isEmpty) := by
  unfold laws_digits.f
  have := digits_loop l [] (by simpa using h)
  simpa using this
end Go.Proofs.YtmbgkdklgdkikaaDoor.QP
