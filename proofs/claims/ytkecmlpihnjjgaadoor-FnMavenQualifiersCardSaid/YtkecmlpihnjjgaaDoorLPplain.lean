/- 'plain' of a text: letters, digits and some more characters, one at least. -/
import Derived.Test.YtkecmlpihnjjgaaDoorZD
import Derived.Test.YtkecmlpihnjjgaaDoorQLx
namespace Go.Proofs.YtkecmlpihnjjgaaDoor.QL
open Go.RowKit Go.Proofs.YtkecmlpihnjjgaaDoorW.PrintWords Go.Proofs.YtkecmlpihnjjgaaDoorW.PrintLast Go.Proofs.YtkecmlpihnjjgaaDoor.Pk Go.Proofs.YtkecmlpihnjjgaaDoor.Giv
set_option linter.unusedVariables false
set_option linter.unusedSimpArgs false

def alnum (c : UInt8) : Bool := Rpm.let_ c || Rpm.dig c
def plainB (more l : List UInt8) : Bool := l.all (fun c => alnum c || more.contains c) && !l.isEmpty
theorem inner_loop (pre r : List UInt8) (more rest : List UInt8) (c : UInt8) (R : Bool) (hl : (pre ++ r).length < 4611686018427387904) (hm : ∀ q : List UInt8, q ++ rest = more → more.length < 4611686018427387904)
    (next : Ev (fun k => laws_plain.l0 k (bs (pre ++ r)) (bs more) (wrap64 ((pre.length : Int) + 1))) R) :
    ∀ (q : List UInt8) (ok : Bool), q ++ rest = more → Ev (fun k => laws_plain.l1 k (bs (pre ++ r)) (bs more) (pre.length : Int) (c.toNat : Int) ok (q.length : Int)) ((ok || rest.contains c) && R) := by
  induction rest with
  | nil =>
    intro q ok e
    refine Ev.step (fun k => by rw [laws_plain.l1]) ?_
    rw [List.append_nil] at e
    subst e
    refine ev_neg (by rw [bs_size]; omega) ?_
    cases ok with
    | true => exact ev_pos rfl next
    | false => exact ev_neg (by simp) (Ev.now _)
  | cons x rest ih =>
    intro q ok e
    have hq : q.length < more.length := by rw [← e]; simp
    have hmm := hm q e
    have b := bs_bt more q.length hq
    have w := wr q.length (by omega)
    have hx : more[q.length]'hq = x := by
      have : more[q.length]? = some x := by rw [← e]; simp
      rw [List.getElem?_eq_getElem hq] at this
      exact Option.some.inj this
    rw [hx] at b
    refine Ev.step (fun k => by rw [laws_plain.l1, b, w]) ?_
    refine ev_pos (by rw [bs_size]; omega) ?_
    have z := ih (fun q _ => hmm) (q ++ [x])
    simp only [List.length_append, List.length_cons, List.length_nil, Nat.zero_add, List.append_assoc, List.cons_append, List.nil_append] at z
    cases ok with
    | true =>
      refine ev_pos rfl ?_
      have := z true e
      simpa using this
    | false =>
      refine ev_neg (by simp) (ev_pos (by omega) ?_)
      have := z ((c.toNat : Int) == (x.toNat : Int)) e
      have e2 : ((c.toNat : Int) == (x.toNat : Int)) = (c == x) := by
        rw [Bool.eq_iff_iff]
        simp only [beq_iff_eq]
        constructor
        · intro h
          exact UInt8.toNat_inj.1 (by omega)
        · intro h
          rw [h]
      rw [e2] at this
      have e3 : ((c == x) || rest.contains c) = (false || (x :: rest).contains c) := by
        rw [List.contains_cons, Bool.false_or]
      rw [e2, ← e3]
      exact this
theorem plain_loop (more : List UInt8) (hm : more.length < 4611686018427387904) (r : List UInt8) : ∀ pre : List UInt8, pre.length + r.length < 4611686018427387904 → Ev (fun k => laws_plain.l0 k (bs (pre ++ r)) (bs more) (pre.length : Int)) (r.all (fun c => alnum c || more.contains c) && !(pre ++ r).isEmpty) := by
  induction r with
  | nil =>
    intro pre hs
    refine Ev.step (fun k => by rw [laws_plain.l0]) ?_
    refine ev_neg (by rw [bs_size]; simp) ?_
    have e : ((bs (pre ++ [])).toList != ([] : List UInt8)) = ([].all (fun c => alnum c || more.contains c) && !(pre ++ []).isEmpty) := by
      rw [bs_toList, Bool.eq_iff_iff]
      simp
    rw [← e]
    exact Ev.now _
  | cons c r ih =>
    intro pre hs
    simp only [List.length_cons] at hs
    have hb := bs_bt (pre ++ c :: r) pre.length (by simp)
    rw [List.getElem_append_right (Nat.le_refl _)] at hb
    simp only [Nat.sub_self, List.getElem_cons_zero] at hb
    have w := wr pre.length (by omega)
    have z := ih (pre ++ [c]) (by simp; omega)
    rw [show (pre ++ [c]) ++ r = pre ++ c :: r by simp, show (pre ++ [c]).length = pre.length + 1 by simp] at z
    have j : ∀ ok : Bool, ok = alnum c → Ev (fun k => laws_plain.j1 k (bs (pre ++ c :: r)) (bs more) (pre.length : Int) (c.toNat : Int) ok) ((c :: r).all (fun c => alnum c || more.contains c) && !(pre ++ c :: r).isEmpty) := by
      intro ok hok
      refine Ev.step (fun k => by rw [laws_plain.j1]) ?_
      have := inner_loop pre (c :: r) more more c _ (by simp; omega) (fun _ _ => hm) (by rw [w]; exact z) [] ok rfl
      rw [hok] at this ⊢
      have e : ((c :: r).all (fun c => alnum c || more.contains c) && !(pre ++ c :: r).isEmpty) = ((alnum c || more.contains c) && (r.all (fun c => alnum c || more.contains c) && !(pre ++ c :: r).isEmpty)) := by
        rw [List.all_cons, Bool.and_assoc]
      rw [e]
      exact this
    refine Ev.step (fun k => by rw [laws_plain.l0, hb]) ?_
    refine ev_pos (by rw [bs_size, List.length_append, List.length_cons]; omega) (ev_pos (by omega) ?_)
    have tail : (¬ ((c.toNat : Int) ≥ 48 ∧ (c.toNat : Int) ≤ 57)) → Ev (fun k => if (c.toNat : Int) ≥ 97 then (if (c.toNat : Int) ≤ 122 then (laws_plain.j1 k (bs (pre ++ c :: r)) (bs more) (pre.length : Int) (c.toNat : Int) true) else (if (c.toNat : Int) ≥ 65 then (laws_plain.j1 k (bs (pre ++ c :: r)) (bs more) (pre.length : Int) (c.toNat : Int) (decide ((c.toNat : Int) ≤ 90))) else (laws_plain.j1 k (bs (pre ++ c :: r)) (bs more) (pre.length : Int) (c.toNat : Int) false))) else (if (c.toNat : Int) ≥ 65 then (laws_plain.j1 k (bs (pre ++ c :: r)) (bs more) (pre.length : Int) (c.toNat : Int) (decide ((c.toNat : Int) ≤ 90))) else (laws_plain.j1 k (bs (pre ++ c :: r)) (bs more) (pre.length : Int) (c.toNat : Int) false))) ((c :: r).all (fun c => alnum c || more.contains c) && !(pre ++ c :: r).isEmpty) := by
      intro hn
      have hd : Rpm.dig c = false := by
        unfold Rpm.dig
        rw [decide_eq_false_iff_not]
        omega
      have lt : ∀ p : Bool, (p = true ↔ (65 ≤ c.toNat ∧ c.toNat ≤ 90 ∨ 97 ≤ c.toNat ∧ c.toNat ≤ 122)) → p = alnum c := by
        intro p h
        unfold alnum Rpm.let_
        rw [hd, Bool.or_false, Bool.eq_iff_iff, h, decide_eq_true_eq]
      by_cases h97 : (c.toNat : Int) ≥ 97
      · refine ev_pos h97 ?_
        by_cases h122 : (c.toNat : Int) ≤ 122
        · exact ev_pos h122 (j _ (lt _ (by simp; omega)))
        · exact ev_neg h122 (ev_pos (by omega) (j _ (lt _ (by simp; omega))))
      · refine ev_neg h97 ?_
        by_cases h65 : (c.toNat : Int) ≥ 65
        · exact ev_pos h65 (j _ (lt _ (by simp; omega)))
        · exact ev_neg h65 (j _ (lt _ (by simp; omega)))
    by_cases h48 : (c.toNat : Int) ≥ 48
    · refine ev_pos h48 ?_
      by_cases h57 : (c.toNat : Int) ≤ 57
      · refine ev_pos h57 (j _ ?_)
        unfold alnum Rpm.dig
        rw [decide_eq_true (by omega), Bool.or_true]
      · exact ev_neg h57 (tail (by omega))
    · exact ev_neg h48 (tail (by omega))
theorem plain_ev (more l : List UInt8) (hm : more.length < 4611686018427387904) (hl : l.length < 4611686018427387904) : Ev (fun k => laws_plain.f k (bs l) (bs more)) (plainB more l) := by
  unfold laws_plain.f
  have := plain_loop more hm l [] (by simpa using hl)
  simpa [plainB] using this
end Go.Proofs.YtkecmlpihnjjgaaDoor.QL
