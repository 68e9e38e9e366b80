-- Written by a working copy of the kit's print program, turned at a few places by wip/tool/mkprint.py. Lean checks it.
import Derived.Test.YtffcbcihnoaikaaDoorQEx0
namespace Go.Proofs.YtffcbcihnoaikaaDoor.QE
open Go.RowKit Go.Proofs.YtffcbcihnoaikaaDoorW.PrintWords Go.Proofs.YtffcbcihnoaikaaDoorW.PrintLast Go.Proofs.YtffcbcihnoaikaaDoorW.PrintMore
attribute [local go_sem] max2_int min2_int max_two min_two max_three min_three max_four min_four   -- for this text's walks alone
set_option linter.unusedVariables false
set_option linter.unusedSimpArgs false

theorem eqA25 (d : Nat) (w : World) (x0 y0 : Bool) (x1 y1 : ByteArray) :
    (Op.equalIn (d + 2) 25 (.agg #[.bool x0, .string x1]) (.agg #[.bool y0, .string y1])).run Tryd.prog w = .ok (x0 == y0 && (x1.toList == y1.toList)) w := by
  refine eqA_of Tryd.underlying25 (by kernel_rfl) ?_
  refine eqf_cons (by rfl) (by go_simp; rfl) (by go_simp; rfl) (by go_simp) ?_
  exact eqf_last (by rfl) (by go_simp; rfl) (by go_simp; rfl) (by go_simp)
theorem eqA27 (d : Nat) (w : World) (x0 y0 : Bool) (x1 y1 : ByteArray) (x2 y2 : ByteArray) (x3 y3 : ByteArray) :
    (Op.equalIn (d + 3) 27 (.agg #[.bool x0, .string x1, .string x2, .string x3]) (.agg #[.bool y0, .string y1, .string y2, .string y3])).run Tryd.prog w = .ok ((x0 == y0 && (x1.toList == y1.toList)) && (x2.toList == y2.toList && (x3.toList == y3.toList))) w := by
  refine eqA_of Tryd.underlying27 (by kernel_rfl) ?_
  refine eqf_cons (by rfl) (by go_simp) (by go_simp) (eqA25 (d + 0) w _ _ _ _) ?_
  refine eqf_cons (by rfl) (by go_simp; rfl) (by go_simp; rfl) (by go_simp) ?_
  exact eqf_last (by rfl) (by go_simp; rfl) (by go_simp; rfl) (by go_simp)
end Go.Proofs.YtffcbcihnoaikaaDoor.QE
