/- 'isDigit', 'allDigits' of the reference. -/
import Derived.Test.YtojabknjniihmaaPk
import Derived.Test.YtojabknjniihmaaQAx
namespace Go.Proofs.Ytojabknjniihmaa.QA
open Go.RowKit Go.Proofs.YtojabknjniihmaaW.PrintWords Go.Proofs.YtojabknjniihmaaW.PrintLast Go.Proofs.Ytojabknjniihmaa.Pk Go.Proofs.Ytojabknjniihmaa.Giv
set_option linter.unusedVariables false

theorem isDigit_f (c : UInt8) : spec_isDigit.f (c.toNat : Int) = some (Rpm.dig c) := by
  unfold spec_isDigit.f Rpm.dig
  by_cases h : (c.toNat : Int) ≥ 48
  · rw [if_pos h]
    congr 1
    rw [decide_eq_decide]
    omega
  · rw [if_neg h]
    congr 1
    symm
    rw [decide_eq_false_iff_not]
    omega
/-- Digits alone, one at least. -/
def digitsB (l : List UInt8) : Bool := l.all Rpm.dig && !l.isEmpty
theorem allDigits_loop (s : ByteArray) (hs : s.size < 4611686018427387904) (d : Nat) : ∀ i : Nat, i + d = s.size → Ev (fun k => spec_allDigits.l0 k s (i : Int)) ((s.toList.drop i).all Rpm.dig && !s.toList.isEmpty) := by
  induction d with
  | zero =>
    intro i hi
    refine Ev.step (fun k => by rw [spec_allDigits.l0]) ?_
    refine ev_neg (by omega) ?_
    rw [List.drop_of_length_le (by rw [len_toList]; omega), List.all_nil, Bool.true_and]
    have e : decide ((s.size : Int) > 0) = !s.toList.isEmpty := by
      rw [Bool.eq_iff_iff]
      simp only [decide_eq_true_eq, Bool.not_eq_true', List.isEmpty_eq_false_iff]
      rw [← List.length_pos_iff, len_toList]
      omega
    rw [← e]
    exact Ev.now _
  | succ d ih =>
    intro i hi
    have hlt : i < s.size := by omega
    have b := bt_nat s i hlt
    have w := wr i (by omega)
    refine Ev.step (fun k => by rw [spec_allDigits.l0, b, w, isDigit_f, Option.bind_some]) ?_
    refine ev_pos (by omega) (ev_pos (by omega) ?_)
    rw [drop_at s i hlt, List.all_cons]
    by_cases h : Rpm.dig (s[i]'hlt) = true
    · rw [h, Bool.true_and]
      exact ev_pos rfl (ih (i + 1) (by omega))
    · have h' : Rpm.dig (s[i]'hlt) = false := by simpa using h
      rw [h']
      exact ev_neg (by simp) (Ev.now _)
theorem allDigits_ev (s : ByteArray) (hs : s.size < 4611686018427387904) : Ev (fun k => spec_allDigits.f k s) (digitsB s.toList) := allDigits_loop s hs s.size 0 (by omega)
end Go.Proofs.Ytojabknjniihmaa.QA
