/- 'texts': are two lists of texts equal. -/
import Derived.Test.YtfgechefinijbaaDoorZD
import Derived.Test.YtfgechefinijbaaDoorQGx
namespace Go.Proofs.YtfgechefinijbaaDoor.QG
open Go.RowKit Go.Proofs.YtfgechefinijbaaDoorW.PrintWords Go.Proofs.YtfgechefinijbaaDoorW.PrintLast Go.Proofs.YtfgechefinijbaaDoor.Pk Go.Proofs.YtfgechefinijbaaDoor.Giv
set_option linter.unusedVariables false

theorem texts_loop (l m : List ByteArray) (hl : l.length < 4611686018427387904) (hlm : l.length = m.length) (d : Nat) : ∀ i : Nat, i + d = l.length → Ev (fun k => laws_texts.l0 k l m (l.length : Int) (i : Int)) (decide (l.drop i = m.drop i)) := by
  induction d with
  | zero =>
    intro i hi
    refine Ev.step (fun k => by rw [laws_texts.l0]) ?_
    refine ev_neg (by omega) ?_
    rw [List.drop_of_length_le (by omega), List.drop_of_length_le (by omega)]
    exact Ev.now _
  | succ d ih =>
    intro i hi
    have h1 : i < l.length := by omega
    have h2 : i < m.length := by omega
    have r1 := rdOf_nat ByteArray.empty l i h1
    have r2 := rdOf_nat ByteArray.empty m i h2
    have w := wr i (by omega)
    refine Ev.step (fun k => by rw [laws_texts.l0, r1, r2, w]) ?_
    refine ev_pos (by omega) (ev_pos (by omega) (ev_pos (by omega) (ev_pos (by omega) ?_)))
    rw [List.drop_eq_getElem_cons h1, List.drop_eq_getElem_cons h2]
    by_cases h : l[i].toList = m[i].toList
    · have e := eq_of_toList h
      refine ev_pos h ?_
      have z := ih (i + 1) (by omega)
      rw [show decide (l[i] :: l.drop (i + 1) = m[i] :: m.drop (i + 1)) = decide (l.drop (i + 1) = m.drop (i + 1)) by
        rw [decide_eq_decide, e]
        exact ⟨fun h' => (List.cons.inj h').2, fun h' => congrArg _ h'⟩]
      exact z
    · refine ev_neg h ?_
      rw [show decide (l[i] :: l.drop (i + 1) = m[i] :: m.drop (i + 1)) = false by
        rw [decide_eq_false_iff_not]
        intro e
        injection e with e1 e2
        exact h (by rw [e1])]
      exact Ev.now _
theorem texts_ev (l m : List ByteArray) (hl : l.length < 4611686018427387904) : Ev (fun k => laws_texts.f k l m) (decide (l = m)) := by
  unfold laws_texts.f
  by_cases h : l.length = m.length
  · refine ev_pos (by omega) ?_
    have := texts_loop l m hl h l.length 0 (by omega)
    simpa using this
  · refine ev_neg (by omega) ?_
    rw [show decide (l = m) = false by
      rw [decide_eq_false_iff_not]
      intro e
      exact h (by rw [e])]
    exact Ev.now _
end Go.Proofs.YtfgechefinijbaaDoor.QG
