/- What the reference answers over segments: known ones. -/
import Derived.Test.YtfgechefinijbaaDoorZVP
namespace Go.Proofs.YtfgechefinijbaaDoor.QV
open Go.RowKit Go.Proofs.YtfgechefinijbaaDoorW.PrintWords Go.Proofs.YtfgechefinijbaaDoorW.PrintLast Go.Proofs.YtfgechefinijbaaDoor.Pk Go.Proofs.YtfgechefinijbaaDoor.Giv Go.Proofs.YtfgechefinijbaaDoor.Ord
set_option linter.unusedVariables false

/-- A zero ahead of digits. -/
def zer (s : ByteArray) : Bool := decide (1 < s.size) && (decide (bt s 0 = 48) && Num.digits s.toList)
def rbK (l : List ByteArray) : Bool := l.all (fun s => !zer s) && idK l
theorem rbKnown_loop (l : List ByteArray) (hl : l.length < 4611686018427387904) (hs : ∀ s ∈ l, s.size < 4611686018427387904) (d : Nat) : ∀ i : Nat, i + d = l.length → Ev (fun k => spec_RubySegmentsKnown.l0 k l (i : Int)) ((l.drop i).all (fun s => !zer s) && idK l) := by
  induction d with
  | zero =>
    intro i hi
    refine Ev.step (fun k => by rw [spec_RubySegmentsKnown.l0]) ?_
    refine ev_neg (by omega) ?_
    rw [List.drop_of_length_le (by omega), List.all_nil, Bool.true_and]
    exact (idKnown_ev l hl hs).bind (Ev.now _)
  | succ d ih =>
    intro i hi
    have hlt : i < l.length := by omega
    have w := wr i (by omega)
    have r := rdOf_nat ByteArray.empty l i hlt
    have hz := hs _ (List.getElem_mem hlt)
    have nx := ih (i + 1) (by omega)
    rw [List.drop_eq_getElem_cons hlt, List.all_cons, Bool.and_assoc]
    generalize l[i]'hlt = s at *
    refine Ev.step (fun k => by rw [spec_RubySegmentsKnown.l0, w, r]) ?_
    refine ev_pos (by omega) (ev_pos (by omega) ?_)
    unfold zer
    by_cases h1 : (s.size : Int) > 1
    · rw [decide_eq_true (by omega), Bool.true_and]
      refine ev_pos h1 (ev_pos (by omega) ?_)
      by_cases c1 : bt s 0 = 48
      · rw [decide_eq_true c1, Bool.true_and]
        refine ev_pos c1 ((allDigits_ev s hz).bind ?_)
        cases Num.digits s.toList with
        | true => exact ev_pos rfl (Ev.now _)
        | false => exact ev_neg (by simp) nx
      · rw [decide_eq_false c1, Bool.false_and, Bool.not_false, Bool.true_and]
        exact ev_neg c1 nx
    · rw [decide_eq_false (by omega), Bool.false_and, Bool.not_false, Bool.true_and]
      exact ev_neg h1 nx
theorem rbKnown_ev (l : List ByteArray) (hl : l.length < 4611686018427387904) (hs : ∀ s ∈ l, s.size < 4611686018427387904) : Ev (fun k => spec_RubySegmentsKnown.f k l) (rbK l) := rbKnown_loop l hl hs l.length 0 (by omega)
theorem rbK_id {l : List ByteArray} (h : rbK l = true) : idK l = true := by
  unfold rbK at h
  rw [Bool.and_eq_true] at h
  exact h.2

end Go.Proofs.YtfgechefinijbaaDoor.QV
