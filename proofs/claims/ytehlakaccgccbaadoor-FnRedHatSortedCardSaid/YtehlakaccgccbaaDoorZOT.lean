/- 'short': of lists of texts.
   'plain' of a text: letters, digits and some more characters, one at least.
   'indexOf' of the reference.
   What the reference answers: digits.
   What the reference's small functions over lists of texts answer: fits, digits, known segments, numbers in digits.
   The reference's comparison of two parts answers as Rpm.parts says.
   Lists of texts: each is small enough to be told.
   What the reference answers of Red Hat versions: into which parts they fall, how two compare. -/
import Derived.Test.YtehlakaccgccbaaDoorPk
import Derived.Test.YtehlakaccgccbaaDoorQOx
import Derived.Test.YtehlakaccgccbaaDoorPmk
import Derived.Test.YtehlakaccgccbaaDoorSeg2
import Derived.Test.YtehlakaccgccbaaDoorDGivP
namespace Go.Proofs.YtehlakaccgccbaaDoor.QO
open Go.RowKit Go.Proofs.YtehlakaccgccbaaDoorW.PrintWords Go.Proofs.YtehlakaccgccbaaDoorW.PrintLast Go.Proofs.YtehlakaccgccbaaDoor.Pk Go.Proofs.YtehlakaccgccbaaDoor.Giv
set_option linter.unusedVariables false

/-- Are all texts short, and not many of them? -/
def shortB (l : List ByteArray) : Bool := l.all (fun s => decide (s.size ≤ 1500)) && decide (l.length ≤ 150)
theorem short_loop (l : List ByteArray) (hl : l.length < 4611686018427387904) (d : Nat) : ∀ i : Nat, i + d = l.length → Ev (fun k => laws_short.l0 k l l (l.length : Int) (i : Int)) ((l.drop i).all (fun s => decide (s.size ≤ 1500)) && decide (l.length ≤ 150)) := by
  induction d with
  | zero =>
    intro i hi
    refine Ev.step (fun k => by rw [laws_short.l0]) ?_
    refine ev_neg (by omega) ?_
    rw [List.drop_of_length_le (by omega)]
    have e : decide ((l.length : Int) ≤ 150) = ([].all (fun s : ByteArray => decide (s.size ≤ 1500)) && decide (l.length ≤ 150)) := by
      rw [List.all_nil, Bool.true_and, decide_eq_decide]
      omega
    rw [← e]
    exact Ev.now _
  | succ d ih =>
    intro i hi
    have hlt : i < l.length := by omega
    have r := rdOf_nat ByteArray.empty l i hlt
    have w := wr i (by omega)
    refine Ev.step (fun k => by rw [laws_short.l0, r, w]) ?_
    refine ev_pos (by omega) (ev_pos (by omega) (ev_pos (by omega) ?_))
    rw [List.drop_eq_getElem_cons hlt, List.all_cons]
    by_cases h : ((l[i].size : Int)) > 1500
    · refine ev_pos h ?_
      have e : decide (l[i].size ≤ 1500) = false := by rw [decide_eq_false_iff_not]; omega
      rw [e]
      exact Ev.now _
    · refine ev_neg h ?_
      have e : decide (l[i].size ≤ 1500) = true := by rw [decide_eq_true_eq]; omega
      rw [e, Bool.true_and]
      exact ih (i + 1) (by omega)
theorem short_ev (l : List ByteArray) (hl : l.length < 4611686018427387904) : Ev (fun k => laws_short.f k l) (shortB l) := short_loop l hl l.length 0 (by omega)
theorem short_sizes {l : List ByteArray} (h : shortB l = true) : ∀ s ∈ l, s.size ≤ 1500 := by
  unfold shortB at h
  rw [Bool.and_eq_true, List.all_eq_true] at h
  intro s hs
  simpa using h.1 s hs
theorem short_len {l : List ByteArray} (h : shortB l = true) : l.length ≤ 150 := by
  unfold shortB at h
  rw [Bool.and_eq_true] at h
  simpa using h.2
end Go.Proofs.YtehlakaccgccbaaDoor.QO

namespace Go.Proofs.YtehlakaccgccbaaDoor.QO
open Go.RowKit Go.Proofs.YtehlakaccgccbaaDoorW.PrintWords Go.Proofs.YtehlakaccgccbaaDoorW.PrintLast Go.Proofs.YtehlakaccgccbaaDoor.Pk Go.Proofs.YtehlakaccgccbaaDoor.Giv
set_option linter.unusedVariables false
set_option linter.unusedSimpArgs false

def alnum (c : UInt8) : Bool := Rpm.let_ c || Rpm.dig c
def plainB (more l : List UInt8) : Bool := l.all (fun c => alnum c || more.contains c) && !l.isEmpty
theorem inner_loop (pre r : List UInt8) (more rest : List UInt8) (c : UInt8) (R : Bool) (hl : (pre ++ r).length < 4611686018427387904) (hm : ∀ q : List UInt8, q ++ rest = more → more.length < 4611686018427387904)
    (next : Ev (fun k => laws_plain.l0 k (bs (pre ++ r)) (bs more) (wrap64 ((pre.length : Int) + 1))) R) :
    ∀ (q : List UInt8) (ok : Bool), q ++ rest = more → Ev (fun k => laws_plain.l1 k (bs (pre ++ r)) (bs more) (pre.length : Int) (c.toNat : Int) ok (q.length : Int)) ((ok || rest.contains c) && R) := by
  induction rest with
  | nil =>
    intro q ok e
    refine Ev.step (fun k => by rw [laws_plain.l1]) ?_
    rw [List.append_nil] at e
    subst e
    refine ev_neg (by rw [bs_size]; omega) ?_
    cases ok with
    | true => exact ev_pos rfl next
    | false => exact ev_neg (by simp) (Ev.now _)
  | cons x rest ih =>
    intro q ok e
    have hq : q.length < more.length := by rw [← e]; simp
    have hmm := hm q e
    have b := bs_bt more q.length hq
    have w := wr q.length (by omega)
    have hx : more[q.length]'hq = x := by
      have : more[q.length]? = some x := by rw [← e]; simp
      rw [List.getElem?_eq_getElem hq] at this
      exact Option.some.inj this
    rw [hx] at b
    refine Ev.step (fun k => by rw [laws_plain.l1, b, w]) ?_
    refine ev_pos (by rw [bs_size]; omega) ?_
    have z := ih (fun q _ => hmm) (q ++ [x])
    simp only [List.length_append, List.length_cons, List.length_nil, Nat.zero_add, List.append_assoc, List.cons_append, List.nil_append] at z
    cases ok with
    | true =>
      refine ev_pos rfl ?_
      have := z true e
      simpa using this
    | false =>
      refine ev_neg (by simp) (ev_pos (by omega) ?_)
      have := z ((c.toNat : Int) == (x.toNat : Int)) e
      have e2 : ((c.toNat : Int) == (x.toNat : Int)) = (c == x) := by
        rw [Bool.eq_iff_iff]
        simp only [beq_iff_eq]
        constructor
        · intro h
          exact UInt8.toNat_inj.1 (by omega)
        · intro h
          rw [h]
      rw [e2] at this
      have e3 : ((c == x) || rest.contains c) = (false || (x :: rest).contains c) := by
        rw [List.contains_cons, Bool.false_or]
      rw [e2, ← e3]
      exact this
theorem plain_loop (more : List UInt8) (hm : more.length < 4611686018427387904) (r : List UInt8) : ∀ pre : List UInt8, pre.length + r.length < 4611686018427387904 → Ev (fun k => laws_plain.l0 k (bs (pre ++ r)) (bs more) (pre.length : Int)) (r.all (fun c => alnum c || more.contains c) && !(pre ++ r).isEmpty) := by
  induction r with
  | nil =>
    intro pre hs
    refine Ev.step (fun k => by rw [laws_plain.l0]) ?_
    refine ev_neg (by rw [bs_size]; simp) ?_
    have e : ((bs (pre ++ [])).toList != ([] : List UInt8)) = ([].all (fun c => alnum c || more.contains c) && !(pre ++ []).isEmpty) := by
      rw [bs_toList, Bool.eq_iff_iff]
      simp
    rw [← e]
    exact Ev.now _
  | cons c r ih =>
    intro pre hs
    simp only [List.length_cons] at hs
    have hb := bs_bt (pre ++ c :: r) pre.length (by simp)
    rw [List.getElem_append_right (Nat.le_refl _)] at hb
    simp only [Nat.sub_self, List.getElem_cons_zero] at hb
    have w := wr pre.length (by omega)
    have z := ih (pre ++ [c]) (by simp; omega)
    rw [show (pre ++ [c]) ++ r = pre ++ c :: r by simp, show (pre ++ [c]).length = pre.length + 1 by simp] at z
    have j : ∀ ok : Bool, ok = alnum c → Ev (fun k => laws_plain.j1 k (bs (pre ++ c :: r)) (bs more) (pre.length : Int) (c.toNat : Int) ok) ((c :: r).all (fun c => alnum c || more.contains c) && !(pre ++ c :: r).isEmpty) := by
      intro ok hok
      refine Ev.step (fun k => by rw [laws_plain.j1]) ?_
      have := inner_loop pre (c :: r) more more c _ (by simp; omega) (fun _ _ => hm) (by rw [w]; exact z) [] ok rfl
      rw [hok] at this ⊢
      have e : ((c :: r).all (fun c => alnum c || more.contains c) && !(pre ++ c :: r).isEmpty) = ((alnum c || more.contains c) && (r.all (fun c => alnum c || more.contains c) && !(pre ++ c :: r).isEmpty)) := by
        rw [List.all_cons, Bool.and_assoc]
      rw [e]
      exact this
    refine Ev.step (fun k => by rw [laws_plain.l0, hb]) ?_
    refine ev_pos (by rw [bs_size, List.length_append, List.length_cons]; omega) (ev_pos (by omega) ?_)
    have tail : (¬ ((c.toNat : Int) ≥ 48 ∧ (c.toNat : Int) ≤ 57)) → Ev (fun k => if (c.toNat : Int) ≥ 97 then (if (c.toNat : Int) ≤ 122 then (laws_plain.j1 k (bs (pre ++ c :: r)) (bs more) (pre.length : Int) (c.toNat : Int) true) else (if (c.toNat : Int) ≥ 65 then (laws_plain.j1 k (bs (pre ++ c :: r)) (bs more) (pre.length : Int) (c.toNat : Int) (decide ((c.toNat : Int) ≤ 90))) else (laws_plain.j1 k (bs (pre ++ c :: r)) (bs more) (pre.length : Int) (c.toNat : Int) false))) else (if (c.toNat : Int) ≥ 65 then (laws_plain.j1 k (bs (pre ++ c :: r)) (bs more) (pre.length : Int) (c.toNat : Int) (decide ((c.toNat : Int) ≤ 90))) else (laws_plain.j1 k (bs (pre ++ c :: r)) (bs more) (pre.length : Int) (c.toNat : Int) false))) ((c :: r).all (fun c => alnum c || more.contains c) && !(pre ++ c :: r).isEmpty) := by
      intro hn
      have hd : Rpm.dig c = false := by
        unfold Rpm.dig
        rw [decide_eq_false_iff_not]
        omega
      have lt : ∀ p : Bool, (p = true ↔ (65 ≤ c.toNat ∧ c.toNat ≤ 90 ∨ 97 ≤ c.toNat ∧ c.toNat ≤ 122)) → p = alnum c := by
        intro p h
        unfold alnum Rpm.let_
        rw [hd, Bool.or_false, Bool.eq_iff_iff, h, decide_eq_true_eq]
      by_cases h97 : (c.toNat : Int) ≥ 97
      · refine ev_pos h97 ?_
        by_cases h122 : (c.toNat : Int) ≤ 122
        · exact ev_pos h122 (j _ (lt _ (by simp; omega)))
        · exact ev_neg h122 (ev_pos (by omega) (j _ (lt _ (by simp; omega))))
      · refine ev_neg h97 ?_
        by_cases h65 : (c.toNat : Int) ≥ 65
        · exact ev_pos h65 (j _ (lt _ (by simp; omega)))
        · exact ev_neg h65 (j _ (lt _ (by simp; omega)))
    by_cases h48 : (c.toNat : Int) ≥ 48
    · refine ev_pos h48 ?_
      by_cases h57 : (c.toNat : Int) ≤ 57
      · refine ev_pos h57 (j _ ?_)
        unfold alnum Rpm.dig
        rw [decide_eq_true (by omega), Bool.or_true]
      · exact ev_neg h57 (tail (by omega))
    · exact ev_neg h48 (tail (by omega))
theorem plain_ev (more l : List UInt8) (hm : more.length < 4611686018427387904) (hl : l.length < 4611686018427387904) : Ev (fun k => laws_plain.f k (bs l) (bs more)) (plainB more l) := by
  unfold laws_plain.f
  have := plain_loop more hm l [] (by simpa using hl)
  simpa [plainB] using this
end Go.Proofs.YtehlakaccgccbaaDoor.QO

namespace Go.Proofs.YtehlakaccgccbaaDoor.QO
open Go.RowKit Go.Proofs.YtehlakaccgccbaaDoorW.PrintWords Go.Proofs.YtehlakaccgccbaaDoorW.PrintLast Go.Proofs.YtehlakaccgccbaaDoor.Pk Go.Proofs.YtehlakaccgccbaaDoor.Giv
set_option linter.unusedVariables false

theorem indexOf_loop (s : ByteArray) (c : UInt8) (hs : s.size < 4611686018427387904) (d : Nat) : ∀ i : Nat, i + d = s.size → (s.toList.take i).any (fun x => x == c) = false → Ev (fun k => spec_indexOf.l0 k s (c.toNat : Int) (i : Int)) (placeOf (fun x => x == c) s.toList) := by
  induction d with
  | zero =>
    intro i hi hno
    refine Ev.step (fun k => by rw [spec_indexOf.l0]) ?_
    refine ev_neg (by omega) ?_
    rw [List.take_of_length_le (by rw [len_toList]; omega)] at hno
    have e : placeOf (fun x => x == c) s.toList = -1 := by
      unfold placeOf
      rw [hno]
      rfl
    rw [e]
    exact Ev.now _
  | succ d ih =>
    intro i hi hno
    have hlt : i < s.size := by omega
    have b := bt_nat s i hlt
    have w := wr i (by omega)
    refine Ev.step (fun k => by rw [spec_indexOf.l0, b, w]) ?_
    refine ev_pos (by omega) (ev_pos (by omega) ?_)
    by_cases h : (s[i]'hlt) = c
    · refine ev_pos (by rw [h]) ?_
      rw [placeOf_step _ s.toList i (by rw [len_toList]; exact hlt) hno (by rw [getElem_toList s i hlt, h]; simp)]
      exact Ev.now _
    · refine ev_neg (fun e => h (UInt8.toNat_inj.1 (by omega))) ?_
      refine ih (i + 1) (by omega) ?_
      rw [take_next' s i hlt, List.any_append, hno]
      simpa using h
theorem indexOf_ev (s : ByteArray) (c : UInt8) (hs : s.size < 4611686018427387904) : Ev (fun k => spec_indexOf.f k s (c.toNat : Int)) (placeOf (fun x => x == c) s.toList) := indexOf_loop s c hs s.size 0 (by omega) (by simp)
end Go.Proofs.YtehlakaccgccbaaDoor.QO

namespace Go.Proofs.YtehlakaccgccbaaDoor.QO
open Go.RowKit Go.Proofs.YtehlakaccgccbaaDoorW.PrintWords Go.Proofs.YtehlakaccgccbaaDoorW.PrintLast Go.Proofs.YtehlakaccgccbaaDoor.Pk Go.Proofs.YtehlakaccgccbaaDoor.Giv Go.Proofs.YtehlakaccgccbaaDoor.Ord
set_option linter.unusedVariables false

theorem isDigit_f (c : UInt8) : spec_isDigit.f (c.toNat : Int) = some (Rpm.dig c) := by
  unfold spec_isDigit.f Rpm.dig
  by_cases h : (c.toNat : Int) ≥ 48
  · rw [if_pos h]
    congr 1
    rw [decide_eq_decide]
    omega
  · rw [if_neg h]
    congr 1
    rw [eq_comm, decide_eq_false_iff_not]
    omega
theorem allDigits_loop (s : ByteArray) (hs : s.size < 4611686018427387904) (d : Nat) : ∀ i : Nat, i + d = s.size → Ev (fun k => spec_allDigits.l0 k s (i : Int)) ((s.toList.drop i).all Rpm.dig && decide (s.size > 0)) := by
  induction d with
  | zero =>
    intro i hi
    refine Ev.step (fun k => by rw [spec_allDigits.l0]) ?_
    refine ev_neg (by omega) ?_
    rw [List.drop_of_length_le (by rw [len_toList]; omega), List.all_nil, Bool.true_and]
    have e : decide ((s.size : Int) > 0) = decide (s.size > 0) := by rw [decide_eq_decide]; omega
    rw [← e]
    exact Ev.now _
  | succ d ih =>
    intro i hi
    have hlt : i < s.size := by omega
    have w := wr i (by omega)
    refine Ev.step (fun k => by rw [spec_allDigits.l0, bt_nat s i hlt, w, isDigit_f]) ?_
    refine ev_pos (by omega) (ev_pos (by omega) (ev_some ?_))
    rw [drop_at s i hlt, List.all_cons]
    cases hd : Rpm.dig (s[i]'hlt) with
    | true => exact ev_pos rfl (ih (i + 1) (by omega))
    | false => exact ev_neg (by simp) (Ev.now _)
theorem allDigits_ev (s : ByteArray) (hs : s.size < 4611686018427387904) : Ev (fun k => spec_allDigits.f k s) (Num.digits s.toList) := by
  unfold spec_allDigits.f
  have := allDigits_loop s hs s.size 0 (by omega)
  have e : ((s.toList.drop 0).all Rpm.dig && decide (s.size > 0)) = Num.digits s.toList := by
    unfold Num.digits
    rw [List.drop_zero, Bool.and_comm]
    congr 1
    rw [Bool.eq_iff_iff, ← len_toList]
    simp [List.length_pos_iff]
  rw [← e]
  exact this
end Go.Proofs.YtehlakaccgccbaaDoor.QO

namespace Go.Proofs.YtehlakaccgccbaaDoor.QO
open Go.RowKit Go.Proofs.YtehlakaccgccbaaDoorW.PrintWords Go.Proofs.YtehlakaccgccbaaDoorW.PrintLast Go.Proofs.YtehlakaccgccbaaDoor.Pk Go.Proofs.YtehlakaccgccbaaDoor.Giv Go.Proofs.YtehlakaccgccbaaDoor.Ord
set_option linter.unusedVariables false

theorem tail_eq (s : ByteArray) (h : 0 < s.size) : s.toList = s[0]'h :: (s.extract 1 s.size).toList := by
  rw [ext_all]
  have := drop_at s 0 h
  simpa using this
end Go.Proofs.YtehlakaccgccbaaDoor.QO

namespace Go.Proofs.YtehlakaccgccbaaDoor.QO
open Go.RowKit Go.Proofs.YtehlakaccgccbaaDoorW.PrintWords Go.Proofs.YtehlakaccgccbaaDoorW.PrintLast Go.Proofs.YtehlakaccgccbaaDoor.Pk Go.Proofs.YtehlakaccgccbaaDoor.Giv Go.Proofs.YtehlakaccgccbaaDoor.Ord
set_option linter.unusedVariables false
set_option linter.unusedSimpArgs false

theorem isDigit_r (c : UInt8) : spec_isDigit.f (c.toNat : Int) = some (Rpm.dig c) := by
  unfold spec_isDigit.f Rpm.dig
  by_cases h : (c.toNat : Int) ≥ 48
  · rw [if_pos h]
    congr 1
    rw [decide_eq_decide]
    omega
  · rw [if_neg h]
    congr 1
    symm
    rw [decide_eq_false_iff_not]
    omega
theorem isLetter_r (c : UInt8) : spec_isLetter.f (c.toNat : Int) = some (Rpm.let_ c) := by
  unfold spec_isLetter.f Rpm.let_
  by_cases h : (c.toNat : Int) ≥ 97
  · rw [if_pos h]
    by_cases h' : (c.toNat : Int) ≤ 122
    · rw [if_pos h']
      congr 1
      symm
      rw [decide_eq_true_eq]
      omega
    · rw [if_neg h', if_pos (by omega)]
      congr 1
      rw [decide_eq_decide]
      omega
  · rw [if_neg h]
    by_cases h' : (c.toNat : Int) ≥ 65
    · rw [if_pos h']
      congr 1
      rw [decide_eq_decide]
      omega
    · rw [if_neg h']
      congr 1
      symm
      rw [decide_eq_false_iff_not]
      omega
theorem orderInts_r (a b : Int) : spec_orderInts.f a b = some (cI a b) := by
  unfold spec_orderInts.f cI
  by_cases h : a < b
  · rw [if_pos h, if_pos h]
  · rw [if_neg h, if_neg h]
    by_cases h' : a > b
    · rw [if_pos h', if_pos h']
    · rw [if_neg h', if_neg h']
theorem skip_ev (l : List UInt8) : Ev (fun k => spec_rpmSkip.f k (bs l)) (bs (Rpm.skip l)) := by
  unfold spec_rpmSkip.f
  induction l with
  | nil =>
    refine Ev.step (fun k => by rw [spec_rpmSkip.l0]) ?_
    exact ev_neg (by rw [bs_size]; simp) (Ev.now _)
  | cons c r ih =>
    refine Ev.step (fun k => by rw [spec_rpmSkip.l0, bs_bt0, bs_tail]) ?_
    have hs : (0 : Int) < ((bs (c :: r)).size : Int) := by rw [bs_size, List.length_cons]; omega
    refine ev_pos hs (ev_pos hs ?_)
    rw [isDigit_r]
    refine ev_some ?_
    have stay : Rpm.sep c = false → Ev (fun _ : Nat => some (bs (c :: r))) (bs (Rpm.skip (c :: r))) := by
      intro h
      unfold Rpm.skip
      rw [List.dropWhile_cons_of_neg (by simp [h])]
      exact Ev.now _
    cases hd : Rpm.dig c with
    | true => exact ev_pos rfl (stay (by unfold Rpm.sep; simp [hd]))
    | false =>
      refine ev_neg (by simp) ?_
      rw [isLetter_r]
      refine ev_some ?_
      cases hl : Rpm.let_ c with
      | true => exact ev_pos rfl (stay (by unfold Rpm.sep; simp [hl]))
      | false =>
        refine ev_neg (by simp) ?_
        by_cases h1 : (c.toNat : Int) = 126
        · exact ev_pos h1 (stay (by unfold Rpm.sep; simp [show c.toNat = 126 by omega]))
        · refine ev_neg h1 ?_
          by_cases h2 : (c.toNat : Int) = 94
          · exact ev_pos h2 (stay (by unfold Rpm.sep; simp [show c.toNat = 94 by omega]))
          · refine ev_neg h2 (ev_pos (by omega) ?_)
            have : Rpm.sep c = true := by
              unfold Rpm.sep
              simp [hl, hd, show c.toNat ≠ 126 by omega, show c.toNat ≠ 94 by omega]
            unfold Rpm.skip
            rw [List.dropWhile_cons_of_pos this]
            exact ih
/-- The reference's mark does not tell digits from letters. -/
def mark2 (l : List UInt8) : Int := if Rpm.mark l = 3 then 2 else Rpm.mark l
theorem mark_r (l : List UInt8) : spec_rpmMark.f (bs l) = some (mark2 l) := by
  unfold spec_rpmMark.f mark2
  cases l with
  | nil => rfl
  | cons c r =>
    rw [if_neg (by rw [bs_size, List.length_cons]; omega), if_pos (by rw [bs_size, List.length_cons]; omega), bs_bt0]
    by_cases h1 : c.toNat = 126
    · have m : Rpm.mark (c :: r) = -1 := by simp [Rpm.mark, h1]
      rw [if_pos (by omega), m]
      rfl
    · rw [if_neg (by omega)]
      by_cases h2 : c.toNat = 94
      · have m : Rpm.mark (c :: r) = 1 := by simp [Rpm.mark, h2]
        rw [if_pos (by omega), m]
        rfl
      · rw [if_neg (by omega)]
        by_cases d : Rpm.dig c = true
        · have m : Rpm.mark (c :: r) = 3 := by simp [Rpm.mark, h1, h2, d]
          rw [m]
          rfl
        · have m : Rpm.mark (c :: r) = 2 := by simp [Rpm.mark, h1, h2, d]
          rw [m]
          rfl
theorem run_loop (d : Bool) (r : List UInt8) : ∀ pre : List UInt8, pre.length + r.length < 4611686018427387904 → Ev (fun k => spec_rpmRun.l0 k (bs (pre ++ r)) d (pre.length : Int)) ((pre.length + (r.takeWhile (if d then Rpm.dig else Rpm.let_)).length : Nat) : Int) := by
  induction r with
  | nil =>
    intro pre hs
    refine Ev.step (fun k => by rw [spec_rpmRun.l0]) ?_
    exact ev_neg (by rw [bs_size]; simp) (Ev.now _)
  | cons c r ih =>
    intro pre hs
    have hb := bs_bt (pre ++ c :: r) pre.length (by simp)
    rw [List.getElem_append_right (Nat.le_refl _)] at hb
    simp only [Nat.sub_self, List.getElem_cons_zero] at hb
    simp only [List.length_cons] at hs
    have w := wr pre.length (by omega)
    refine Ev.step (fun k => by rw [spec_rpmRun.l0, hb, w]) ?_
    refine ev_pos (by rw [bs_size, List.length_append, List.length_cons]; omega) ?_
    have z := ih (pre ++ [c]) (by simp; omega)
    rw [show (pre ++ [c]) ++ r = pre ++ c :: r by simp, show (pre ++ [c]).length = pre.length + 1 by simp] at z
    cases d with
    | true =>
      refine ev_pos rfl (ev_pos (by omega) ?_)
      rw [isDigit_r]
      refine ev_some ?_
      cases h : Rpm.dig c with
      | true =>
        refine ev_pos rfl ?_
        rw [if_pos rfl, List.takeWhile_cons_of_pos h, List.length_cons, show pre.length + ((r.takeWhile Rpm.dig).length + 1) = pre.length + 1 + (r.takeWhile Rpm.dig).length by omega]
        rw [if_pos rfl] at z
        exact z
      | false =>
        refine ev_neg (by simp) ?_
        rw [if_pos rfl, List.takeWhile_cons_of_neg (by simp [h])]
        exact Ev.now _
    | false =>
      refine ev_neg (by simp) (ev_pos (by omega) ?_)
      rw [isLetter_r]
      refine ev_some ?_
      cases h : Rpm.let_ c with
      | true =>
        refine ev_pos rfl ?_
        rw [if_neg (by simp), List.takeWhile_cons_of_pos h, List.length_cons, show pre.length + ((r.takeWhile Rpm.let_).length + 1) = pre.length + 1 + (r.takeWhile Rpm.let_).length by omega]
        rw [if_neg (by simp)] at z
        exact z
      | false =>
        refine ev_neg (by simp) ?_
        rw [if_neg (by simp), List.takeWhile_cons_of_neg (by simp [h])]
        exact Ev.now _
theorem run_ev (d : Bool) (l : List UInt8) (h : l.length < 4611686018427387904) : Ev (fun k => spec_rpmRun.f k (bs l) d) ((l.takeWhile (if d then Rpm.dig else Rpm.let_)).length : Int) := by
  have := run_loop d l [] (by simpa using h)
  unfold spec_rpmRun.f
  simpa using this
theorem numbers_end (a b : List UInt8) : Ev (fun k => spec_orderNumbers.j3 k (bs a) (bs b)) (if cI a.length b.length = 0 then cS a b else cI a.length b.length) := by
  refine Ev.step (fun k => by rw [spec_orderNumbers.j3]) ?_
  rw [bs_size, bs_size]
  by_cases h : (a.length : Int) = (b.length : Int)
  · refine ev_pos h ?_
    unfold Giv.spec_order.f
    rw [bs_toList, bs_toList, if_pos (cI_zero.2 h)]
    exact Ev.now _
  · refine ev_neg h ?_
    rw [orderInts_r, if_neg (fun z => h (cI_zero.1 z))]
    exact Ev.now _
theorem numbers_two (b : List UInt8) : ∀ a : List UInt8, Ev (fun k => spec_orderNumbers.l1 k (bs a) (bs b)) (if cI a.length (Rpm.strip0 b).length = 0 then cS a (Rpm.strip0 b) else cI a.length (Rpm.strip0 b).length) := by
  induction b with
  | nil =>
    intro a
    refine Ev.step (fun k => by rw [spec_orderNumbers.l1]) ?_
    exact ev_neg (by rw [bs_size]; simp) (numbers_end a [])
  | cons c r ih =>
    intro a
    refine Ev.step (fun k => by rw [spec_orderNumbers.l1, bs_bt0, bs_tail]) ?_
    have hs : (0 : Int) < ((bs (c :: r)).size : Int) := by rw [bs_size, List.length_cons]; omega
    refine ev_pos hs (ev_pos hs ?_)
    unfold Rpm.strip0
    by_cases h : (c.toNat : Int) = 48
    · refine ev_pos h (ev_pos (by omega) ?_)
      rw [List.dropWhile_cons_of_pos (by simp; omega)]
      exact ih a
    · refine ev_neg h ?_
      rw [List.dropWhile_cons_of_neg (by simp; omega)]
      exact numbers_end a _
theorem numbers_ev (a : List UInt8) : ∀ b : List UInt8, Ev (fun k => spec_orderNumbers.f k (bs a) (bs b)) (Rpm.numC a b) := by
  unfold spec_orderNumbers.f Rpm.numC
  induction a with
  | nil =>
    intro b
    refine Ev.step (fun k => by rw [spec_orderNumbers.l0]) ?_
    refine ev_neg (by rw [bs_size]; simp) ?_
    refine Ev.step (fun k => by rw [spec_orderNumbers.j1]) ?_
    exact numbers_two b []
  | cons c r ih =>
    intro b
    refine Ev.step (fun k => by rw [spec_orderNumbers.l0, bs_bt0, bs_tail]) ?_
    have hs : (0 : Int) < ((bs (c :: r)).size : Int) := by rw [bs_size, List.length_cons]; omega
    refine ev_pos hs (ev_pos hs ?_)
    by_cases h : (c.toNat : Int) = 48
    · refine ev_pos h (ev_pos (by omega) ?_)
      have e : Rpm.strip0 (c :: r) = Rpm.strip0 r := by
        unfold Rpm.strip0
        rw [List.dropWhile_cons_of_pos (by simp; omega)]
      rw [e]
      exact ih b
    · refine ev_neg h ?_
      have e : Rpm.strip0 (c :: r) = c :: r := by
        unfold Rpm.strip0
        rw [List.dropWhile_cons_of_neg (by simp; omega)]
      rw [e]
      refine Ev.step (fun k => by rw [spec_orderNumbers.j1]) ?_
      exact numbers_two b _
theorem runs_same (d : Bool) (a b : List UInt8) (ha : a.length < 4611686018427387904) (hb : b.length < 4611686018427387904) :
    Ev (fun k => spec_rpmRuns.j1 k (bs a) (bs b) d) ((if d then Rpm.numC (a.takeWhile Rpm.dig) (b.takeWhile Rpm.dig) else cS (a.takeWhile Rpm.let_) (b.takeWhile Rpm.let_)), bs (a.dropWhile (if d then Rpm.dig else Rpm.let_)), bs (b.dropWhile (if d then Rpm.dig else Rpm.let_))) := by
  refine Ev.step (fun k => by rw [spec_rpmRuns.j1]) ?_
  refine (run_ev d a ha).bind ?_
  refine (run_ev d b hb).bind ?_
  have la := tw_le (if d then Rpm.dig else Rpm.let_) a
  have lb := tw_le (if d then Rpm.dig else Rpm.let_) b
  rw [Int.toNat_natCast, Int.toNat_natCast, bs_extHead, bs_extHead, bs_extAll, bs_extAll, take_tw, take_tw, drop_tw, drop_tw]
  refine ev_pos (by omega) (ev_pos (by rw [bs_size]; omega) (ev_pos (by omega) (ev_pos (by rw [bs_size]; omega) ?_)))
  unfold Giv.spec_order.f
  refine ev_some ?_
  cases d with
  | true =>
    refine ev_pos rfl ?_
    refine (numbers_ev _ _).bind ?_
    exact Ev.now _
  | false =>
    refine ev_neg (by simp) ?_
    rw [bs_toList, bs_toList]
    exact Ev.now _
theorem dig_of {c : UInt8} {r : List UInt8} (h : Rpm.mark (c :: r) = 2 ∨ Rpm.mark (c :: r) = 3) : Rpm.dig c = decide (Rpm.mark (c :: r) = 3) := by
  by_cases d : Rpm.dig c = true
  · have d' := d
    unfold Rpm.dig at d'
    simp at d'
    have m : Rpm.mark (c :: r) = 3 := by
      simp only [Rpm.mark]
      rw [if_neg (by omega), if_neg (by omega), if_pos d]
    rw [m, d]
    rfl
  · have d' : Rpm.dig c = false := by simpa using d
    have m : Rpm.mark (c :: r) ≠ 3 := fun m => d (Rpm.mark_dig m)
    rw [d']
    symm
    rw [decide_eq_false_iff_not]
    exact m
/-- What stands behind a run is shorter. -/
theorem drop_of {l : List UInt8} {c : UInt8} {r : List UInt8} (h : Rpm.mark (c :: r) = 2 ∨ Rpm.mark (c :: r) = 3) (e : Rpm.skip l = c :: r) : ((c :: r).dropWhile (if Rpm.mark (c :: r) = 3 then Rpm.dig else Rpm.let_)).length ≤ r.length := by
  rcases h with h | h
  · rw [if_neg (by omega)]
    exact Rpm.drop_lt (Rpm.mark_let e h).1
  · rw [if_pos h]
    exact Rpm.drop_lt (Rpm.mark_dig h)
theorem parts_loop (m : Nat) : ∀ a b : List UInt8, a.length < m → a.length < 4611686018427387904 → b.length < 4611686018427387904 → Ev (fun k => spec_RedHatParts.l0 k (bs a) (bs b)) (Rpm.rpm m a b) := by
  induction m with
  | zero => intro a b h; omega
  | succ m ih =>
    intro a b hm ha hb
    refine Ev.step (fun k => by rw [spec_RedHatParts.l0]) ?_
    refine (skip_ev a).bind ?_
    refine (skip_ev b).bind ?_
    rw [mark_r, mark_r]
    refine ev_some (ev_some ?_)
    rw [orderInts_r]
    refine ev_some ?_
    have sa := Rpm.skip_le a
    have sb := Rpm.skip_le b
    have ca := Rpm.mark_cases (Rpm.skip a)
    have cb := Rpm.mark_cases (Rpm.skip b)
    by_cases h2 : mark2 (Rpm.skip a) = mark2 (Rpm.skip b)
    · refine ev_pos (cI_zero.2 h2) ?_
      refine Ev.step (fun k => by rw [spec_RedHatParts.j2]) ?_
      by_cases h0 : mark2 (Rpm.skip a) = 0
      · refine ev_pos (by simp [h0]) ?_
        have ma : Rpm.mark (Rpm.skip a) = 0 := by unfold mark2 at h0; split at h0 <;> omega
        have mb : Rpm.mark (Rpm.skip b) = 0 := by unfold mark2 at h0 h2; split at h2 <;> split at h2 <;> simp_all
        have : Rpm.rpm (m + 1) a b = 0 := by
          simp only [Rpm.rpm]
          rw [if_pos (by omega), if_pos ma]
        rw [this, cI_zero.2 h2]
        exact Ev.now _
      · refine ev_neg (by simp [h0]) ?_
        cases ea : Rpm.skip a with
        | nil =>
          rw [ea] at h0
          exact absurd rfl h0
        | cons c r =>
          cases eb : Rpm.skip b with
          | nil =>
            rw [ea, eb] at h2
            rw [ea] at h0
            exact absurd h2 h0
          | cons c' r' =>
            rw [ea] at sa ca h2 h0
            rw [eb] at sb cb h2
            simp only [List.length_cons] at sa sb
            by_cases h1 : mark2 (c :: r) < 2
            · refine ev_pos h1 (ev_pos (by rw [bs_size, List.length_cons]; omega) (ev_pos (by rw [bs_size, List.length_cons]; omega) ?_))
              rw [bs_tail, bs_tail]
              have z := ih r r' (by omega) (by omega) (by omega)
              have ma : Rpm.mark (c :: r) = Rpm.mark (c' :: r') := by
                unfold mark2 at h1 h2
                rcases ca with h | h | h | h | h <;> rcases cb with h' | h' | h' | h' | h' <;> simp [h, h'] at h1 h2 ⊢
              have : Rpm.rpm (m + 1) a b = Rpm.rpm m r r' := by
                simp only [Rpm.rpm]
                rw [ea, eb, if_pos ma]
                have n0 : Rpm.mark (c :: r) ≠ 0 := by unfold mark2 at h0; split at h0 <;> omega
                have n2 : Rpm.mark (c :: r) < 2 := by unfold mark2 at h1; split at h1 <;> omega
                rw [if_neg n0, if_pos n2]
                rfl
              rw [this]
              exact z
            · refine ev_neg h1 ?_
              have ma : Rpm.mark (c :: r) = 2 ∨ Rpm.mark (c :: r) = 3 := by unfold mark2 at h1; split at h1 <;> omega
              have mb : Rpm.mark (c' :: r') = 2 ∨ Rpm.mark (c' :: r') = 3 := by
                unfold mark2 at h1 h2
                split at h2 <;> split at h2 <;> omega
              have da := dig_of ma
              have db := dig_of mb
              have dr := drop_of ma (l := a) ea
              by_cases same : Rpm.mark (c :: r) = Rpm.mark (c' :: r')
              · have rs := runs_same (Rpm.dig c) (c :: r) (c' :: r') (by rw [List.length_cons]; omega) (by rw [List.length_cons]; omega)
                have dsame : Rpm.dig c' = Rpm.dig c := by rw [da, db, same]
                have rr : Ev (fun k => spec_rpmRuns.f k (bs (c :: r)) (bs (c' :: r'))) ((if Rpm.dig c then Rpm.numC ((c :: r).takeWhile Rpm.dig) ((c' :: r').takeWhile Rpm.dig) else cS ((c :: r).takeWhile Rpm.let_) ((c' :: r').takeWhile Rpm.let_)), bs ((c :: r).dropWhile (if Rpm.dig c then Rpm.dig else Rpm.let_)), bs ((c' :: r').dropWhile (if Rpm.dig c then Rpm.dig else Rpm.let_))) := by
                  unfold spec_rpmRuns.f
                  rw [bs_bt0, bs_bt0, isDigit_r, isDigit_r]
                  refine ev_pos (by rw [bs_size, List.length_cons]; omega) (ev_some ?_)
                  cases hd : Rpm.dig c with
                  | true =>
                    rw [hd] at rs
                    refine ev_pos rfl (ev_pos (by rw [bs_size, List.length_cons]; omega) (ev_some ?_))
                    rw [dsame, hd]
                    refine Ev.step (fun k => by rw [spec_rpmRuns.j0]) ?_
                    exact ev_neg (by simp) (ev_pos rfl rs)
                  | false =>
                    rw [hd] at rs
                    refine ev_neg (by simp) ?_
                    refine Ev.step (fun k => by rw [spec_rpmRuns.j0, bs_bt0, isDigit_r, dsame, hd]) ?_
                    exact ev_neg (by simp) (ev_neg (by simp) (ev_pos (by rw [bs_size, List.length_cons]; omega) (ev_some (ev_neg (by simp) rs))))
                refine rr.bind ?_
                rcases ma with m2 | m3
                · have hd : Rpm.dig c = false := by rw [da, m2]; rfl
                  simp only [hd, Bool.false_eq_true, if_false]
                  have e : Rpm.rpm (m + 1) a b = if cS ((c :: r).takeWhile Rpm.let_) ((c' :: r').takeWhile Rpm.let_) = 0 then Rpm.rpm m ((c :: r).dropWhile Rpm.let_) ((c' :: r').dropWhile Rpm.let_) else cS ((c :: r).takeWhile Rpm.let_) ((c' :: r').takeWhile Rpm.let_) := by
                    conv => lhs; simp only [Rpm.rpm]
                    rw [ea, eb, if_pos same, m2, if_neg (by omega), if_neg (by omega), if_neg (by omega)]
                  rw [e]
                  by_cases z : cS ((c :: r).takeWhile Rpm.let_) ((c' :: r').takeWhile Rpm.let_) = 0
                  · refine ev_pos z ?_
                    rw [if_pos z]
                    rw [m2] at dr
                    have q := dw_le Rpm.let_ (c' :: r')
                    simp only [List.length_cons] at q
                    exact ih _ _ (by have := dr; simp at this; omega) (by have := dr; simp at this; omega) (by omega)
                  · refine ev_neg z ?_
                    rw [if_neg z]
                    exact Ev.now _
                · have hd : Rpm.dig c = true := by rw [da, m3]; rfl
                  simp only [hd, if_true]
                  have e : Rpm.rpm (m + 1) a b = if Rpm.numC ((c :: r).takeWhile Rpm.dig) ((c' :: r').takeWhile Rpm.dig) = 0 then Rpm.rpm m ((c :: r).dropWhile Rpm.dig) ((c' :: r').dropWhile Rpm.dig) else Rpm.numC ((c :: r).takeWhile Rpm.dig) ((c' :: r').takeWhile Rpm.dig) := by
                    conv => lhs; simp only [Rpm.rpm]
                    rw [ea, eb, if_pos same, m3, if_neg (by omega), if_neg (by omega), if_pos rfl]
                  rw [e]
                  by_cases z : Rpm.numC ((c :: r).takeWhile Rpm.dig) ((c' :: r').takeWhile Rpm.dig) = 0
                  · refine ev_pos z ?_
                    rw [if_pos z]
                    rw [m3] at dr
                    have q := dw_le Rpm.dig (c' :: r')
                    simp only [List.length_cons] at q
                    exact ih _ _ (by have := dr; simp at this; omega) (by have := dr; simp at this; omega) (by omega)
                  · refine ev_neg z ?_
                    rw [if_neg z]
                    exact Ev.now _
              · have e : Rpm.rpm (m + 1) a b = cI (Rpm.mark (c :: r)) (Rpm.mark (c' :: r')) := by
                  conv => lhs; simp only [Rpm.rpm]
                  rw [ea, eb, if_neg same]
                rw [e]
                have rr : Ev (fun k => spec_rpmRuns.f k (bs (c :: r)) (bs (c' :: r'))) (cI (Rpm.mark (c :: r)) (Rpm.mark (c' :: r')), bs [], bs []) := by
                  unfold spec_rpmRuns.f
                  rw [bs_bt0, bs_bt0, isDigit_r, isDigit_r]
                  refine ev_pos (by rw [bs_size, List.length_cons]; omega) (ev_some ?_)
                  cases hd : Rpm.dig c with
                  | true =>
                    have m3 : Rpm.mark (c :: r) = 3 := by
                      rw [hd] at da
                      exact of_decide_eq_true da.symm
                    have m2 : Rpm.mark (c' :: r') = 2 := by omega
                    have hd' : Rpm.dig c' = false := by rw [db, m2]; rfl
                    refine ev_pos rfl (ev_pos (by rw [bs_size, List.length_cons]; omega) (ev_some ?_))
                    rw [hd']
                    refine Ev.step (fun k => by rw [spec_rpmRuns.j0]) ?_
                    rw [m3, m2]
                    exact ev_pos rfl (Ev.now _)
                  | false =>
                    have m2 : Rpm.mark (c :: r) = 2 := by
                      rw [hd] at da
                      have := of_decide_eq_false da.symm
                      omega
                    have m3 : Rpm.mark (c' :: r') = 3 := by omega
                    have hd' : Rpm.dig c' = true := by rw [db, m3]; rfl
                    refine ev_neg (by simp) ?_
                    refine Ev.step (fun k => by rw [spec_rpmRuns.j0, bs_bt0, isDigit_r, hd']) ?_
                    rw [m3, m2]
                    exact ev_neg (by simp) (ev_neg (by simp) (ev_pos (by rw [bs_size, List.length_cons]; omega) (ev_some (ev_pos rfl (Ev.now _)))))
                refine rr.bind ?_
                refine ev_neg (fun z => same (cI_zero.1 z)) (Ev.now _)
    · refine ev_neg (fun z => h2 (cI_zero.1 z)) ?_
      refine Ev.step (fun k => by rw [spec_RedHatParts.j2]) ?_
      refine ev_pos rfl ?_
      have n : Rpm.mark (Rpm.skip a) ≠ Rpm.mark (Rpm.skip b) := by
        intro e
        unfold mark2 at h2
        rw [e] at h2
        exact h2 rfl
      have : Rpm.rpm (m + 1) a b = cI (mark2 (Rpm.skip a)) (mark2 (Rpm.skip b)) := by
        simp only [Rpm.rpm]
        rw [if_neg n]
        unfold mark2 at h2 ⊢
        unfold cI
        rcases ca with h | h | h | h | h <;> rcases cb with h' | h' | h' | h' | h' <;> rw [h, h'] <;> rw [h, h'] at h2 <;> first | rfl | exact absurd rfl h2 | (simp at h2)
      rw [this]
      exact Ev.now _
theorem specParts_ev (a b : List UInt8) (ha : a.length < 2305843009213693952) (hb : b.length < 2305843009213693952) : Ev (fun k => spec_RedHatParts.f k (bs a) (bs b)) (Rpm.parts a b) := by
  unfold spec_RedHatParts.f Rpm.parts
  rw [bs_toList, bs_toList]
  by_cases h : a = []
  · refine ev_pos h ?_
    refine Ev.step (fun k => by rw [spec_RedHatParts.j0]) ?_
    refine ev_pos rfl ?_
    rw [if_pos (.inl h), orderInts_r, bs_size, bs_size]
    exact Ev.now _
  · refine ev_neg h ?_
    refine Ev.step (fun k => by rw [spec_RedHatParts.j0]) ?_
    by_cases h' : b = []
    · refine ev_pos (by simp [h']) ?_
      rw [if_pos (.inr h'), orderInts_r, bs_size, bs_size]
      exact Ev.now _
    · refine ev_neg (by simp [h']) ?_
      rw [if_neg (by simp [h, h'])]
      exact parts_loop _ a b (by omega) (by omega) (by omega)
end Go.Proofs.YtehlakaccgccbaaDoor.QO

namespace Go.Proofs.YtehlakaccgccbaaDoor.QO
open Go.RowKit Go.Proofs.YtehlakaccgccbaaDoorW.PrintWords Go.Proofs.YtehlakaccgccbaaDoorW.PrintLast Go.Proofs.YtehlakaccgccbaaDoor.Pk Go.Proofs.YtehlakaccgccbaaDoor.Giv Go.Proofs.YtehlakaccgccbaaDoor.Ord
set_option linter.unusedVariables false

theorem fits_loop (l : List ByteArray) (hl : l.length < 4611686018427387904) (d : Nat) : ∀ i : Nat, i + d = l.length → Tm (fun k => laws_zzFits1.l0 k l (l.length : Int) (i : Int)) := by
  induction d with
  | zero =>
    intro i hi
    refine Tm.step (fun k => by rw [laws_zzFits1.l0]) ?_
    exact Tm.ite (fun h => absurd h (by omega)) (fun _ => Tm.now _)
  | succ d ih =>
    intro i hi
    have w := wr i (by omega)
    refine Tm.step (fun k => by rw [laws_zzFits1.l0, w]) ?_
    refine Tm.ite (fun _ => Tm.ite (fun _ => Tm.ite (fun _ => Tm.ite (fun _ => Tm.now _) (fun _ => ?_)) (fun h => absurd (by omega) h)) (fun h => absurd (by omega) h)) (fun h => absurd (by omega) h)
    exact ih (i + 1) (by omega)
/-- Fits: it tells, and a list that fits is not long. -/
theorem fits_ev (l : List ByteArray) : ∃ b, Ev (fun k => laws_zzFits1.f k l) b ∧ (b = true → l.length ≤ 2147483647) := by
  unfold laws_zzFits1.f
  by_cases h : (l.length : Int) > 2147483647
  · exact ⟨false, ev_pos h (Ev.now _), fun e => by cases e⟩
  · obtain ⟨b, e⟩ := fits_loop l (by omega) l.length 0 (by omega)
    exact ⟨b, ev_neg h e, fun _ => by omega⟩
end Go.Proofs.YtehlakaccgccbaaDoor.QO

namespace Go.Proofs.YtehlakaccgccbaaDoor.QO
open Go.RowKit Go.Proofs.YtehlakaccgccbaaDoorW.PrintWords Go.Proofs.YtehlakaccgccbaaDoorW.PrintLast Go.Proofs.YtehlakaccgccbaaDoor.Pk Go.Proofs.YtehlakaccgccbaaDoor.Giv Go.Proofs.YtehlakaccgccbaaDoor.Ord
set_option linter.unusedVariables false
set_option linter.unusedSimpArgs false
theorem rh_no (c : UInt8) {l : List UInt8} (h : l.any (fun x => x == c) = false) : l.takeWhile (Red.notC c) = l ∧ l.dropWhile (Red.notC c) = [] := by
  have : ∀ x ∈ l, Red.notC c x = true := fun x hx => by
    rw [List.any_eq_false] at h
    unfold Red.notC
    have := h x hx
    simpa using this
  have d := QD.dw_nil.2 this
  have e := List.takeWhile_append_dropWhile (p := Red.notC c) (l := l)
  rw [d, List.append_nil] at e
  exact ⟨e, d⟩
theorem rh_place (c : UInt8) {l : List UInt8} (h : l.any (fun x => x == c) = true) : placeOf (fun x => x == c) l = ((l.takeWhile (Red.notC c)).length : Int) ∧ (l.takeWhile (Red.notC c)).length < l.length := by
  unfold placeOf
  rw [if_pos h, QD.place_tw]
  refine ⟨rfl, ?_⟩
  have e := congrArg List.length (List.takeWhile_append_dropWhile (p := Red.notC c) (l := l))
  rw [List.length_append] at e
  have : (l.dropWhile (Red.notC c)).length ≠ 0 := fun z => by
    have z := List.length_eq_zero_iff.1 z
    rw [QD.dw_nil] at z
    obtain ⟨x, hx, hc⟩ := List.any_eq_true.1 h
    have := z x hx
    unfold Red.notC at this
    rw [hc] at this
    exact absurd this (by simp)
  omega
theorem hyph_ev {α : Type} (t : List UInt8) (ht : t.length ≤ 40000) (G : ByteArray → ByteArray → Option α) (V : α) (hV : G (bs (t.takeWhile (Red.notC 45))) (bs (t.dropWhile (Red.notC 45))) = some V) :
    Ev (fun k => (spec_indexOf.f k (bs t) 45).bind fun t110 => (if t110 ≥ 0 then (if 0 ≤ t110 then (if t110 ≤ ((bs t).size : Int) then G ((bs t).extract 0 (t110 : Int).toNat) ((bs t).extract (t110 : Int).toNat (bs t).size) else none) else none) else G (bs t) (⟨#[]⟩ : ByteArray))) V := by
  have ix := indexOf_ev (bs t) 45 (by rw [bs_size]; omega)
  rw [bs_toList] at ix
  refine ix.bind ?_
  cases h : t.any (fun x => x == 45) with
  | false =>
    have e : placeOf (fun x => x == 45) t = -1 := by
      unfold placeOf
      rw [h]
      rfl
    have n := rh_no 45 h
    rw [n.1, n.2] at hV
    have hV : G (bs t) (⟨#[]⟩ : ByteArray) = some V := hV
    rw [e]
    refine ev_neg (by decide) ?_
    rw [hV]
    exact Ev.now _
  | true =>
    obtain ⟨e, hl⟩ := rh_place 45 h
    have e1 : (bs t).extract 0 (t.takeWhile (Red.notC 45)).length = bs (t.takeWhile (Red.notC 45)) := by rw [bs_extHead, take_tw]
    have e2 : (bs t).extract (t.takeWhile (Red.notC 45)).length (bs t).size = bs (t.dropWhile (Red.notC 45)) := by rw [bs_extAll, drop_tw]
    rw [e, Int.toNat_natCast, e1, e2, bs_size]
    refine ev_pos (by omega) (ev_pos (by omega) (ev_pos (by omega) ?_))
    rw [hV]
    exact Ev.now _
theorem specRH_ev (l : List UInt8) (hl : l.length ≤ 40000) : Ev (fun k => spec_RedHatParse.f k (bs l)) (bs (Red.parse l).1, bs (Red.parse l).2.1, bs (Red.parse l).2.2) := by
  have z48 : (⟨#[48]⟩ : ByteArray) = bs [48] := rfl
  have noep : ∀ (x4 : Int), Ev (fun k => spec_RedHatParse.j0 k (bs l) x4 false (⟨#[48]⟩ : ByteArray) (⟨#[]⟩ : ByteArray) (⟨#[]⟩ : ByteArray)) (bs [48], bs (l.takeWhile (Red.notC 45)), bs (l.dropWhile (Red.notC 45))) := fun x4 => by
    refine Ev.step (fun k => by rw [spec_RedHatParse.j0]) ?_
    refine ev_neg (by simp) ?_
    exact hyph_ev l hl (fun x y => some ((⟨#[48]⟩ : ByteArray), x, y)) _ rfl
  have ix := indexOf_ev (bs l) 58 (by rw [bs_size]; omega)
  rw [bs_toList] at ix
  unfold spec_RedHatParse.f
  refine ix.bind ?_
  cases h : l.any (fun x => x == 58) with
  | false =>
    have e : placeOf (fun x => x == 58) l = -1 := by
      unfold placeOf
      rw [h]
      rfl
    have ep : Red.parse l = ([48], l.takeWhile (Red.notC 45), l.dropWhile (Red.notC 45)) := by
      unfold Red.parse Red.tail
      rw [h, Bool.false_and, if_neg (by simp), if_pos rfl]
    rw [e, ep]
    exact ev_neg (by decide) (noep _)
  | true =>
    obtain ⟨e, hlt⟩ := rh_place 58 h
    rw [e]
    have e1 : (bs l).extract 0 (l.takeWhile (Red.notC 58)).length = bs (l.takeWhile (Red.notC 58)) := by rw [bs_extHead, take_tw]
    have e2 : (bs l).extract ((l.takeWhile (Red.notC 58)).length + 1) (bs l).size = bs (l.dropWhile (Red.notC 58)).tail := by
      rw [bs_extAll, ← List.drop_drop, drop_tw, List.drop_one]
    have e3 : (bs l).size - ((l.takeWhile (Red.notC 58)).length + 1) = (bs (l.dropWhile (Red.notC 58)).tail).size := by
      have := congrArg List.length (List.takeWhile_append_dropWhile (p := Red.notC 58) (l := l))
      rw [List.length_append] at this
      rw [bs_size, bs_size, List.length_tail]
      omega
    have w : wrap64 (((l.takeWhile (Red.notC 58)).length : Int) + 1) = (((l.takeWhile (Red.notC 58)).length + 1 : Nat) : Int) := wr _ (by omega)
    have rl : ((l.dropWhile (Red.notC 58)).tail).length ≤ 40000 := by
      have := dw_le (Red.notC 58) l
      rw [List.length_tail]
      omega
    have PE : Red.parse l = if (l.takeWhile (Red.notC 58)).all Rpm.dig = true then Red.tail (l.takeWhile (Red.notC 58)) (l.dropWhile (Red.notC 58)).tail else Red.tail [] l := by
      unfold Red.parse
      rw [h, Bool.true_and]
    have ad := allDigits_ev (bs (l.takeWhile (Red.notC 58))) (by rw [bs_size]; omega)
    rw [bs_toList] at ad
    rw [PE]
    clear PE
    generalize (l.dropWhile (Red.notC 58)).tail = rs at *
    generalize l.takeWhile (Red.notC 58) = up at *
    have yes : ∀ ep : ByteArray, ep = (if up = [] then bs [48] else bs up) → Ev (fun k => spec_RedHatParse.j0 k (bs l) (up.length : Int) true (⟨#[48]⟩ : ByteArray) (⟨#[]⟩ : ByteArray) (⟨#[]⟩ : ByteArray)) (ep, bs (rs.takeWhile (Red.notC 45)), bs (rs.dropWhile (Red.notC 45))) := fun ep hep => by
      refine Ev.step (fun k => by rw [spec_RedHatParse.j0, w, Int.toNat_natCast, Int.toNat_natCast, e1, e2, e3]) ?_
      refine ev_pos rfl ?_
      cases up with
      | nil =>
        rw [if_pos rfl] at hep
        rw [hep]
        refine ev_neg (by simp) (ev_pos (by simp) (ev_pos (by rw [bs_size]; simp; simp at hlt; omega) ?_))
        exact hyph_ev rs rl (fun x y => some ((⟨#[48]⟩ : ByteArray), x, y)) _ rfl
      | cons c r =>
        rw [if_neg (by simp)] at hep
        rw [hep, bs_size]
        refine ev_pos (by first | (simp; done) | (simp; omega)) (ev_pos (by omega) (ev_pos (by omega) (ev_pos (by omega) (ev_pos (by omega) ?_))))
        exact hyph_ev rs rl (fun x y => some (bs (c :: r), x, y)) _ rfl
    refine ev_pos (by omega) ?_
    cases up with
    | nil =>
      rw [if_pos (by rfl)]
      have y := yes (bs [48]) (by rw [if_pos rfl])
      exact ev_pos rfl y
    | cons c r =>
      refine ev_neg (by first | (simp; done) | (simp; omega)) (ev_pos (by omega) (ev_pos (by rw [bs_size]; omega) ?_))
      rw [Int.toNat_natCast, e1]
      refine ad.bind ?_
      have de : Num.digits (c :: r) = (c :: r).all Rpm.dig := by
        unfold Num.digits
        rfl
      rw [de]
      cases hd : (c :: r).all Rpm.dig with
      | true =>
        rw [if_pos rfl]
        exact yes (bs (c :: r)) (by rw [if_neg (by simp)])
      | false =>
        rw [if_neg (by simp)]
        exact noep _
theorem specCompareRH_ev (a b : List UInt8) (ha : a.length ≤ 40000) (hb : b.length ≤ 40000) : Ev (fun k => spec_RedHatCompare.f k (bs a) (bs b)) (Red.cmp a b, true) := by
  have la := Red.parse_len a
  have lb := Red.parse_len b
  unfold spec_RedHatCompare.f
  refine (specRH_ev a ha).bind ((specRH_ev b hb).bind ?_)
  unfold Red.cmp Red.vc
  refine (specParts_ev _ _ (by omega) (by omega)).bind ?_
  by_cases h1 : Rpm.parts (Red.parse a).1 (Red.parse b).1 = 0
  · rw [if_pos h1]
    refine ev_pos h1 ((specParts_ev _ _ (by omega) (by omega)).bind ?_)
    by_cases h2 : Rpm.parts (Red.parse a).2.1 (Red.parse b).2.1 = 0
    · rw [if_pos h2]
      exact ev_pos h2 ((specParts_ev _ _ (by omega) (by omega)).bind (Ev.now _))
    · rw [if_neg h2]
      exact ev_neg h2 (Ev.now _)
  · rw [if_neg h1]
    exact ev_neg h1 (Ev.now _)
end Go.Proofs.YtehlakaccgccbaaDoor.QO
