/- The comparison of words answers as Dg.cW says. -/
import Derived.Test.YtcaeghgbeldlaaaPk
import Derived.Test.YtcaeghgbeldlaaaDg
import Derived.Test.YtcaeghgbeldlaaaQMx
namespace Go.Proofs.Ytcaeghgbeldlaaa.QM
open Go.RowKit Go.Proofs.YtcaeghgbeldlaaaW.PrintWords Go.Proofs.YtcaeghgbeldlaaaW.PrintLast Go.Proofs.Ytcaeghgbeldlaaa.Pk Go.Proofs.Ytcaeghgbeldlaaa.Giv Go.Proofs.Ytcaeghgbeldlaaa.Ord
set_option linter.unusedVariables false

def ws (l : List Nat) : List Int := l.map Int.ofNat
theorem ws_len (l : List Nat) : (ws l).length = l.length := by simp [ws]
theorem ws_rd (l : List Nat) (i : Nat) (h : i < l.length) : rd (ws l) (i : Int) = ((l[i]'h : Nat) : Int) := by
  rw [rd_nat _ _ (by rw [ws_len]; exact h)]
  simp [ws]
theorem cmp_end (l m : List Nat) (hlm : l.length = m.length) (i : Nat) (hi : i < l.length) : Ev (fun k => bigall_nat_cmp.j2 k (ws l) (ws m) 0 (i : Int)) (cI (l[i]'hi) (m[i]'(by omega))) := by
  have hm : i < m.length := by omega
  have r1 := ws_rd l i hi
  have r2 := ws_rd m i hm
  refine Ev.step (fun k => by rw [bigall_nat_cmp.j2, r1, r2, ws_len, ws_len]) ?_
  refine ev_pos (by omega) (ev_pos (by omega) (ev_pos (by omega) ?_))
  unfold cI
  by_cases h : (l[i] : Int) < (m[i] : Int)
  · refine ev_pos h ?_
    rw [if_pos h]
    exact Ev.now _
  · refine ev_neg h ?_
    rw [if_neg h]
    by_cases h' : (l[i] : Int) > (m[i] : Int)
    · refine ev_pos h' ?_
      rw [if_pos h']
      exact Ev.now _
    · refine ev_neg h' ?_
      rw [if_neg h']
      exact Ev.now _
theorem cmp_loop (l m : List Nat) (hlm : l.length = m.length) (hl : l.length < 4611686018427387904) (i : Nat) : ∀ hi : i < l.length, Ev (fun k => bigall_nat_cmp.l0 k (ws l) (ws m) 0 (i : Int)) (Dg.cE (l.take (i + 1)) (m.take (i + 1))) := by
  induction i with
  | zero =>
    intro hi
    have hm : 0 < m.length := by omega
    refine Ev.step (fun k => by rw [bigall_nat_cmp.l0]) ?_
    refine ev_neg (by omega) ?_
    have := cmp_end l m hlm 0 hi
    have e : Dg.cE (l.take (0 + 1)) (m.take (0 + 1)) = cI (l[0]'hi) (m[0]'hm) := by
      rw [List.take_succ_eq_append_getElem hi, List.take_succ_eq_append_getElem hm, Dg.cE_snoc _ _ _ _ (by simp)]
      simp only [List.take_zero, Dg.cE]
      by_cases z : cI ((l[0]'hi : Nat) : Int) ((m[0]'hm : Nat) : Int) = 0
      · rw [if_pos z, z]
      · rw [if_neg z]
    rw [e]
    exact this
  | succ i ih =>
    intro hi
    have hm : i + 1 < m.length := by omega
    have r1 := ws_rd l (i + 1) hi
    have r2 := ws_rd m (i + 1) hm
    have w : wrap64 (((i + 1 : Nat) : Int) - 1) = (i : Int) := by unfold wrap64; omega
    refine Ev.step (fun k => by rw [bigall_nat_cmp.l0, r1, r2, ws_len, ws_len, w]) ?_
    refine ev_pos (by omega) (ev_pos (by omega) (ev_pos (by omega) (ev_pos (by omega) ?_)))
    rw [List.take_succ_eq_append_getElem hi, List.take_succ_eq_append_getElem hm, Dg.cE_snoc _ _ _ _ (by rw [List.length_take, List.length_take]; omega)]
    by_cases h : ((l[i + 1]'hi : Nat) : Int) = ((m[i + 1]'hm : Nat) : Int)
    · refine ev_pos h ?_
      rw [if_pos (cI_zero.2 h)]
      exact ih (by omega)
    · refine ev_neg h ?_
      rw [if_neg (fun z => h (cI_zero.1 z))]
      exact cmp_end l m hlm (i + 1) hi
theorem natcmp_ev (l m : List Nat) (hl : l.length < 4611686018427387904) : Ev (fun k => bigall_nat_cmp.f k (ws l) (ws m)) (Dg.cW l m) := by
  unfold bigall_nat_cmp.f Dg.cW
  rw [ws_len, ws_len]
  by_cases h : (l.length : Int) = (m.length : Int)
  · refine ev_pos h ?_
    rw [if_pos (by omega)]
    refine Ev.step (fun k => by rw [bigall_nat_cmp.j0]) ?_
    by_cases z : l.length = 0
    · refine ev_pos (by rw [beq_iff_eq]; omega) (ev_neg (by omega) (ev_neg (by omega) ?_))
      have e1 : l = [] := List.length_eq_zero_iff.1 z
      rw [e1]
      simp only [Dg.cE]
      exact Ev.now _
    · refine ev_neg (by rw [beq_iff_eq]; omega) ?_
      have w : wrap64 ((l.length : Int) - 1) = ((l.length - 1 : Nat) : Int) := by unfold wrap64; omega
      rw [w]
      have := cmp_loop l m (by omega) hl (l.length - 1) (by omega)
      rw [show l.length - 1 + 1 = l.length by omega, List.take_of_length_le (Nat.le_refl _), List.take_of_length_le (by omega)] at this
      exact this
  · refine ev_neg h ?_
    rw [if_neg (by omega)]
    refine Ev.step (fun k => by rw [bigall_nat_cmp.j0]) ?_
    refine ev_pos rfl ?_
    unfold cI
    by_cases h1 : (l.length : Int) < (m.length : Int)
    · refine ev_pos h1 ?_
      rw [if_pos h1]
      exact Ev.now _
    · refine ev_neg h1 (ev_pos (by omega) ?_)
      rw [if_neg h1, if_pos (by omega)]
      exact Ev.now _
end Go.Proofs.Ytcaeghgbeldlaaa.QM
