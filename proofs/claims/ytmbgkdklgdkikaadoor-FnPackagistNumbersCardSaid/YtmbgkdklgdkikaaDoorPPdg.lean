/- What the reference answers: digits. -/
import Derived.Test.YtmbgkdklgdkikaaDoorZD
import Derived.Test.YtmbgkdklgdkikaaDoorZA
import Derived.Test.YtmbgkdklgdkikaaDoorQPx
namespace Go.Proofs.YtmbgkdklgdkikaaDoor.QP
open Go.RowKit Go.Proofs.YtmbgkdklgdkikaaDoorW.PrintWords Go.Proofs.YtmbgkdklgdkikaaDoorW.PrintLast Go.Proofs.YtmbgkdklgdkikaaDoor.Pk Go.Proofs.YtmbgkdklgdkikaaDoor.Giv Go.Proofs.YtmbgkdklgdkikaaDoor.Ord
set_option linter.unusedVariables false

theorem isDigit_f (c : UInt8) : spec_isDigit.f (c.toNat : Int) = some (Rpm.dig c) := by
  unfold spec_isDigit.f Rpm.dig
  by_cases h : (c.toNat : Int) ≥ 48
  · rw [if_pos h]
    congr 1
    rw [decide_eq_decide]
    omega
  · rw [if_neg h]
    congr 1
    rw [eq_comm, decide_eq_false_iff_not]
    omega
theorem allDigits_loop (s : ByteArray) (hs : s.size < 4611686018427387904) (d : Nat) : ∀ i : Nat, i + d = s.size → Ev (fun k => spec_allDigits.l0 k s (i : Int)) ((s.toList.drop i).all Rpm.dig && decide (s.size > 0)) := by
  induction d with
  | zero =>
    intro i hi
    refine Ev.step (fun k => by rw [spec_allDigits.l0]) ?_
    refine ev_neg (by omega) ?_
    rw [List.drop_of_length_le (by rw [len_toList]; omega), List.all_nil, Bool.true_and]
    have e : decide ((s.size : Int) > 0) = decide (s.size > 0) := by rw [decide_eq_decide]; omega
    rw [← e]
    exact Ev.now _
  | succ d ih =>
    intro i hi
    have hlt : i < s.size := by omega
    have w := wr i (by omega)
    refine Ev.step (fun k => by rw [spec_allDigits.l0, bt_nat s i hlt, w, isDigit_f]) ?_
    refine ev_pos (by omega) (ev_pos (by omega) (ev_some ?_))
    rw [drop_at s i hlt, List.all_cons]
    cases hd : Rpm.dig (s[i]'hlt) with
    | true => exact ev_pos rfl (ih (i + 1) (by omega))
    | false => exact ev_neg (by simp) (Ev.now _)
theorem allDigits_ev (s : ByteArray) (hs : s.size < 4611686018427387904) : Ev (fun k => spec_allDigits.f k s) (Num.digits s.toList) := by
  unfold spec_allDigits.f
  have := allDigits_loop s hs s.size 0 (by omega)
  have e : ((s.toList.drop 0).all Rpm.dig && decide (s.size > 0)) = Num.digits s.toList := by
    unfold Num.digits
    rw [List.drop_zero, Bool.and_comm]
    congr 1
    rw [Bool.eq_iff_iff, ← len_toList]
    simp [List.length_pos_iff]
  rw [← e]
  exact this
end Go.Proofs.YtmbgkdklgdkikaaDoor.QP
