/- 'short': of lists of texts.
   What the reference's small functions over lists of texts answer: fits, digits, known segments, numbers in digits.
   'Ascii' of the reference.
   What the reference answers of numbers in decimal: their bytes, and which texts are numbers.
   What the reference answers: zeros at the end dropped.
   What the reference answers: points put between digits and other characters.
   What the reference answers of where numbers end.
   What the reference answers over segments: known ones.
   'texts': are two lists of texts equal. -/
import Derived.Test.YtfgechefinijbaaDoorZD
import Derived.Test.YtfgechefinijbaaDoorQUx
import Derived.Test.YtfgechefinijbaaDoorZA
import Derived.Test.YtfgechefinijbaaDoorZK
namespace Go.Proofs.YtfgechefinijbaaDoor.QU
open Go.RowKit Go.Proofs.YtfgechefinijbaaDoorW.PrintWords Go.Proofs.YtfgechefinijbaaDoorW.PrintLast Go.Proofs.YtfgechefinijbaaDoor.Pk Go.Proofs.YtfgechefinijbaaDoor.Giv
set_option linter.unusedVariables false

/-- Are all texts short, and not many of them? -/
def shortB (l : List ByteArray) : Bool := l.all (fun s => decide (s.size ≤ 1500)) && decide (l.length ≤ 150)
theorem short_loop (l : List ByteArray) (hl : l.length < 4611686018427387904) (d : Nat) : ∀ i : Nat, i + d = l.length → Ev (fun k => laws_short.l0 k l l (l.length : Int) (i : Int)) ((l.drop i).all (fun s => decide (s.size ≤ 1500)) && decide (l.length ≤ 150)) := by
  induction d with
  | zero =>
    intro i hi
    refine Ev.step (fun k => by rw [laws_short.l0]) ?_
    refine ev_neg (by omega) ?_
    rw [List.drop_of_length_le (by omega)]
    have e : decide ((l.length : Int) ≤ 150) = ([].all (fun s : ByteArray => decide (s.size ≤ 1500)) && decide (l.length ≤ 150)) := by
      rw [List.all_nil, Bool.true_and, decide_eq_decide]
      omega
    rw [← e]
    exact Ev.now _
  | succ d ih =>
    intro i hi
    have hlt : i < l.length := by omega
    have r := rdOf_nat ByteArray.empty l i hlt
    have w := wr i (by omega)
    refine Ev.step (fun k => by rw [laws_short.l0, r, w]) ?_
    refine ev_pos (by omega) (ev_pos (by omega) (ev_pos (by omega) ?_))
    rw [List.drop_eq_getElem_cons hlt, List.all_cons]
    by_cases h : ((l[i].size : Int)) > 1500
    · refine ev_pos h ?_
      have e : decide (l[i].size ≤ 1500) = false := by rw [decide_eq_false_iff_not]; omega
      rw [e]
      exact Ev.now _
    · refine ev_neg h ?_
      have e : decide (l[i].size ≤ 1500) = true := by rw [decide_eq_true_eq]; omega
      rw [e, Bool.true_and]
      exact ih (i + 1) (by omega)
theorem short_ev (l : List ByteArray) (hl : l.length < 4611686018427387904) : Ev (fun k => laws_short.f k l) (shortB l) := short_loop l hl l.length 0 (by omega)
theorem short_sizes {l : List ByteArray} (h : shortB l = true) : ∀ s ∈ l, s.size ≤ 1500 := by
  unfold shortB at h
  rw [Bool.and_eq_true, List.all_eq_true] at h
  intro s hs
  simpa using h.1 s hs
theorem short_len {l : List ByteArray} (h : shortB l = true) : l.length ≤ 150 := by
  unfold shortB at h
  rw [Bool.and_eq_true] at h
  simpa using h.2
end Go.Proofs.YtfgechefinijbaaDoor.QU

namespace Go.Proofs.YtfgechefinijbaaDoor.QU
open Go.RowKit Go.Proofs.YtfgechefinijbaaDoorW.PrintWords Go.Proofs.YtfgechefinijbaaDoorW.PrintLast Go.Proofs.YtfgechefinijbaaDoor.Pk Go.Proofs.YtfgechefinijbaaDoor.Giv Go.Proofs.YtfgechefinijbaaDoor.Ord
set_option linter.unusedVariables false

theorem isDigit_f (c : UInt8) : spec_isDigit.f (c.toNat : Int) = some (Rpm.dig c) := by
  unfold spec_isDigit.f Rpm.dig
  by_cases h : (c.toNat : Int) ≥ 48
  · rw [if_pos h]
    congr 1
    rw [decide_eq_decide]
    omega
  · rw [if_neg h]
    congr 1
    rw [eq_comm, decide_eq_false_iff_not]
    omega
theorem allDigits_loop (s : ByteArray) (hs : s.size < 4611686018427387904) (d : Nat) : ∀ i : Nat, i + d = s.size → Ev (fun k => spec_allDigits.l0 k s (i : Int)) ((s.toList.drop i).all Rpm.dig && decide (s.size > 0)) := by
  induction d with
  | zero =>
    intro i hi
    refine Ev.step (fun k => by rw [spec_allDigits.l0]) ?_
    refine ev_neg (by omega) ?_
    rw [List.drop_of_length_le (by rw [len_toList]; omega), List.all_nil, Bool.true_and]
    have e : decide ((s.size : Int) > 0) = decide (s.size > 0) := by rw [decide_eq_decide]; omega
    rw [← e]
    exact Ev.now _
  | succ d ih =>
    intro i hi
    have hlt : i < s.size := by omega
    have w := wr i (by omega)
    refine Ev.step (fun k => by rw [spec_allDigits.l0, bt_nat s i hlt, w, isDigit_f]) ?_
    refine ev_pos (by omega) (ev_pos (by omega) (ev_some ?_))
    rw [drop_at s i hlt, List.all_cons]
    cases hd : Rpm.dig (s[i]'hlt) with
    | true => exact ev_pos rfl (ih (i + 1) (by omega))
    | false => exact ev_neg (by simp) (Ev.now _)
theorem allDigits_ev (s : ByteArray) (hs : s.size < 4611686018427387904) : Ev (fun k => spec_allDigits.f k s) (Num.digits s.toList) := by
  unfold spec_allDigits.f
  have := allDigits_loop s hs s.size 0 (by omega)
  have e : ((s.toList.drop 0).all Rpm.dig && decide (s.size > 0)) = Num.digits s.toList := by
    unfold Num.digits
    rw [List.drop_zero, Bool.and_comm]
    congr 1
    rw [Bool.eq_iff_iff, ← len_toList]
    simp [List.length_pos_iff]
  rw [← e]
  exact this
theorem tail_eq (s : ByteArray) (h : 0 < s.size) : s.toList = s[0]'h :: (s.extract 1 s.size).toList := by
  rw [ext_all]
  have := drop_at s 0 h
  simpa using this
/-- No sign ahead of digits in any. -/
def idK (l : List ByteArray) : Bool := l.all (fun s => !Seg.signed s.toList)
theorem idKnown_loop (l : List ByteArray) (hl : l.length < 4611686018427387904) (hs : ∀ s ∈ l, s.size < 4611686018427387904) (d : Nat) : ∀ i : Nat, i + d = l.length → Ev (fun k => spec_IdentifiersKnown.l0 k l (i : Int)) (idK (l.drop i)) := by
  induction d with
  | zero =>
    intro i hi
    refine Ev.step (fun k => by rw [spec_IdentifiersKnown.l0]) ?_
    refine ev_neg (by omega) ?_
    rw [List.drop_of_length_le (by omega)]
    exact Ev.now _
  | succ d ih =>
    intro i hi
    have hlt : i < l.length := by omega
    have w := wr i (by omega)
    have r := rdOf_nat ByteArray.empty l i hlt
    have hz := hs _ (List.getElem_mem hlt)
    have nx := ih (i + 1) (by omega)
    rw [List.drop_eq_getElem_cons hlt]
    unfold idK at nx ⊢
    rw [List.all_cons]
    generalize l[i]'hlt = s at *
    refine Ev.step (fun k => by rw [spec_IdentifiersKnown.l0, w, r]) ?_
    refine ev_pos (by omega) (ev_pos (by omega) ?_)
    by_cases h1 : (s.size : Int) > 1
    · have h0 : 0 < s.size := by omega
      have et := tail_eq s h0
      have b0 : bt s 0 = ((s[0]'h0).toNat : Int) := bt_nat s 0 h0
      have ad := allDigits_ev (s.extract 1 s.size) (by rw [ByteArray.size_extract]; omega)
      refine ev_pos h1 (ev_pos (by omega) ?_)
      rw [b0]
      have sg : Seg.signed s.toList = ((decide ((s[0]'h0).toNat = 45) || decide ((s[0]'h0).toNat = 43)) && Num.digits (s.extract 1 s.size).toList) := by
        conv => lhs; rw [et]
        rfl
      rw [sg]
      by_cases c1 : ((s[0]'h0).toNat : Int) = 45
      · refine ev_pos c1 (ev_pos (by omega) (ad.bind ?_))
        rw [decide_eq_true (by omega), Bool.true_or, Bool.true_and]
        cases Num.digits (s.extract 1 s.size).toList with
        | true => exact ev_pos rfl (Ev.now _)
        | false => exact ev_neg (by simp) nx
      · refine ev_neg c1 ?_
        by_cases c2 : ((s[0]'h0).toNat : Int) = 43
        · refine ev_pos c2 (ev_pos (by omega) (ad.bind ?_))
          rw [decide_eq_false (by omega), decide_eq_true (by omega), Bool.false_or, Bool.true_and]
          cases Num.digits (s.extract 1 s.size).toList with
          | true => exact ev_pos rfl (Ev.now _)
          | false => exact ev_neg (by simp) nx
        · refine ev_neg c2 ?_
          rw [decide_eq_false (by omega), decide_eq_false (by omega)]
          exact nx
    · refine ev_neg h1 ?_
      have sg : Seg.signed s.toList = false := by
        have hl : s.toList.length ≤ 1 := by rw [len_toList]; omega
        unfold Seg.signed
        cases hc : s.toList with
        | nil => rfl
        | cons c r =>
          have : r = [] := by rw [hc] at hl; simp at hl; exact hl
          subst this
          simp [Num.digits]
      rw [sg]
      exact nx
theorem idKnown_ev (l : List ByteArray) (hl : l.length < 4611686018427387904) (hs : ∀ s ∈ l, s.size < 4611686018427387904) : Ev (fun k => spec_IdentifiersKnown.f k l) (idK l) := by
  have := idKnown_loop l hl hs l.length 0 (by omega)
  exact this
theorem idK_tl {l : List ByteArray} (h : idK l = true) : ∀ x ∈ tl l, Seg.signed x = false := by
  intro x hx
  obtain ⟨s, hs, rfl⟩ := List.mem_map.1 hx
  unfold idK at h
  rw [List.all_eq_true] at h
  simpa using h s hs
end Go.Proofs.YtfgechefinijbaaDoor.QU

namespace Go.Proofs.YtfgechefinijbaaDoor.QU
open Go.RowKit Go.Proofs.YtfgechefinijbaaDoorW.PrintWords Go.Proofs.YtfgechefinijbaaDoorW.PrintLast Go.Proofs.YtfgechefinijbaaDoor.Pk Go.Proofs.YtfgechefinijbaaDoor.Giv
set_option linter.unusedVariables false

def ascB (s : ByteArray) : Bool := s.toList.all (fun c => decide (c.toNat < 128))
theorem ascii_loop (s : ByteArray) (hs : s.size < 4611686018427387904) (d : Nat) : ∀ i : Nat, i + d = s.size → Ev (fun k => spec_Ascii.l0 k s (i : Int)) ((s.toList.drop i).all (fun c => decide (c.toNat < 128))) := by
  induction d with
  | zero =>
    intro i hi
    refine Ev.step (fun k => by rw [spec_Ascii.l0]) ?_
    refine ev_neg (by omega) ?_
    rw [List.drop_of_length_le (by rw [len_toList]; omega)]
    exact Ev.now _
  | succ d ih =>
    intro i hi
    have hlt : i < s.size := by omega
    have b := bt_nat s i hlt
    have w := wr i (by omega)
    refine Ev.step (fun k => by rw [spec_Ascii.l0, b, w]) ?_
    refine ev_pos (by omega) (ev_pos (by omega) ?_)
    rw [drop_at s i hlt, List.all_cons]
    by_cases h : (((s[i]'hlt).toNat : Int)) > 127
    · refine ev_pos h ?_
      rw [show decide ((s[i]'hlt).toNat < 128) = false by rw [decide_eq_false_iff_not]; omega]
      exact Ev.now _
    · refine ev_neg h ?_
      rw [show decide ((s[i]'hlt).toNat < 128) = true by rw [decide_eq_true_eq]; omega, Bool.true_and]
      exact ih (i + 1) (by omega)
theorem ascii_ev (s : ByteArray) (hs : s.size < 4611686018427387904) : Ev (fun k => spec_Ascii.f k s) (ascB s) := ascii_loop s hs s.size 0 (by omega)
end Go.Proofs.YtfgechefinijbaaDoor.QU

namespace Go.Proofs.YtfgechefinijbaaDoor.QU
open Go.RowKit Go.Proofs.YtfgechefinijbaaDoorW.PrintWords Go.Proofs.YtfgechefinijbaaDoorW.PrintLast Go.Proofs.YtfgechefinijbaaDoor.Pk Go.Proofs.YtfgechefinijbaaDoor.Giv Go.Proofs.YtfgechefinijbaaDoor.Ord
set_option linter.unusedVariables false

def wi (l : List Nat) : List Int := l.map Int.ofNat
theorem wi_len (l : List Nat) : (wi l).length = l.length := by simp [wi]
theorem wi_rd (p : List Nat) (x : Nat) (r : List Nat) : rd (wi (p ++ x :: r)) (p.length : Int) = (x : Int) := by
  rw [rd_nat _ _ (by rw [wi_len]; simp)]
  simp [wi]
theorem wi_set (p : List Nat) (x : Nat) (r : List Nat) (y : Nat) : (wi (p ++ x :: r)).set p.length (y : Int) = wi (p ++ y :: r) := by
  unfold wi
  rw [List.map_append, List.map_cons, List.set_append_right _ _ (by simp), List.length_map, Nat.sub_self, List.map_append, List.map_cons]
  rfl
theorem io_step (c x : Nat) (hc : c ≤ 9) (hx : x < 256) : (Int.tmod (wrap64 ((c : Int) + (wrap64 (10 * (wrap64 (x : Int)))))) 256) % 256 = (((c + 10 * x) % 256 : Nat) : Int) ∧ wrap64 (Int.tdiv (wrap64 ((c : Int) + (wrap64 (10 * (wrap64 (x : Int)))))) 256) = (((c + 10 * x) / 256 : Nat) : Int) := by
  have w1 : wrap64 (x : Int) = x := by unfold wrap64; omega
  have w2 : wrap64 (10 * (x : Int)) = 10 * x := by unfold wrap64; omega
  have w3 : wrap64 ((c : Int) + 10 * x) = ((c + 10 * x : Nat) : Int) := by unfold wrap64; omega
  rw [w1, w2, w3]
  have a : Int.tmod ((c + 10 * x : Nat) : Int) 256 = (((c + 10 * x) % 256 : Nat) : Int) := Int.ofNat_tmod _ _ |>.symm
  have b : Int.tdiv ((c + 10 * x : Nat) : Int) 256 = (((c + 10 * x) / 256 : Nat) : Int) := Int.ofNat_tdiv _ _ |>.symm
  rw [a, b]
  refine ⟨by omega, by unfold wrap64; omega⟩
theorem io_l1 (s : ByteArray) (i : Nat) (V : Bool × ByteArray) (r : List Nat) : ∀ (p : List Nat) (c : Nat), c ≤ 9 → (∀ x ∈ r, x < 256) → p.length + r.length < 100000 → Ev (fun k => spec_intOf.l0 k s (wi (p ++ Lb.ma c r)) (wrap64 ((i : Int) + 1))) V → Ev (fun k => spec_intOf.l1 k s (wi (p ++ r)) (i : Int) (c : Int) (p.length : Int)) V := by
  induction r with
  | nil =>
    intro p c hc _ hl nx
    rw [List.append_nil]
    refine Ev.step (fun k => by rw [spec_intOf.l1]) ?_
    refine ev_neg (by rw [wi_len]; omega) ?_
    rw [Lb.ma] at nx
    by_cases hz : c = 0
    · rw [if_pos hz, List.append_nil] at nx
      exact ev_neg (by omega) nx
    · rw [if_neg hz] at nx
      refine ev_pos (by omega) (ev_pos (by rw [wi_len]; omega) ?_)
      have e : wi p ++ [(c : Int) % 256] = wi (p ++ [c]) := by
        unfold wi
        rw [List.map_append, show (c : Int) % 256 = (c : Int) by omega]
        rfl
      rw [e]
      exact nx
  | cons x r ih =>
    intro p c hc hs hl nx
    have hx := hs x List.mem_cons_self
    have w := wr p.length (by simp at hl; omega)
    obtain ⟨a, b⟩ := io_step c x hc hx
    have z := ih (p ++ [(c + 10 * x) % 256]) ((c + 10 * x) / 256) (by omega) (fun y hy => hs y (List.mem_cons_of_mem _ hy)) (by simp at hl ⊢; omega) (by
      rw [Lb.ma] at nx
      rw [List.append_assoc]
      exact nx)
    rw [List.append_assoc, List.length_append, List.length_singleton] at z
    refine Ev.step (fun k => by rw [spec_intOf.l1, wi_rd, a, b, w, Int.toNat_natCast, wi_set]) ?_
    refine ev_pos (by rw [wi_len]; simp; omega) (ev_pos (by omega) ?_)
    exact z
theorem io_l2 (l : List Nat) (hl : l.length < 100000) (d : Nat) : ∀ j : Nat, j + d = l.length → Ev (fun k => spec_intOf.l2 k (wi l) (wi (List.replicate (l.length - j) 0 ++ (l.take j).reverse)) (j : Int)) (false, strOfNums (wi l.reverse)) := by
  induction d with
  | zero =>
    intro j hj
    refine Ev.step (fun k => by rw [spec_intOf.l2]) ?_
    refine ev_neg (by rw [wi_len]; omega) ?_
    rw [show l.length - j = 0 by omega, List.replicate_zero, List.nil_append, List.take_of_length_le (by omega)]
    exact Ev.now _
  | succ d ih =>
    intro j hj
    have hlt : j < l.length := by omega
    have w := wr j (by omega)
    have w1 : wrap64 ((wrap64 (((wi l).length : Int) - 1)) - (j : Int)) = ((l.length - 1 - j : Nat) : Int) := by
      rw [wi_len]
      unfold wrap64
      omega
    have r : rd (wi l) (j : Int) = ((l[j]'hlt : Nat) : Int) := by
      rw [rd_nat _ _ (by rw [wi_len]; exact hlt)]
      simp [wi]
    have e : (wi (List.replicate (l.length - j) 0 ++ (l.take j).reverse)).set (l.length - 1 - j) ((l[j]'hlt : Nat) : Int) = wi (List.replicate (l.length - (j + 1)) 0 ++ (l.take (j + 1)).reverse) := by
      have q := wi_set (List.replicate (l.length - (j + 1)) 0) 0 (l.take j).reverse (l[j]'hlt)
      rw [List.length_replicate] at q
      rw [show l.length - j = (l.length - (j + 1)) + 1 by omega, List.replicate_succ', List.append_assoc, List.take_succ_eq_append_getElem hlt, List.reverse_append, show l.length - 1 - j = l.length - (j + 1) by omega]
      exact q
    have z := ih (j + 1) (by omega)
    refine Ev.step (fun k => by rw [spec_intOf.l2, w1, r, w, Int.toNat_natCast, e]) ?_
    refine ev_pos (by rw [wi_len]; omega) (ev_pos (by omega) (ev_pos (by omega) (ev_pos ?_ z)))
    rw [wi_len, List.length_append, List.length_replicate, List.length_reverse, List.length_take]
    omega
theorem strOf_mag (n : Nat) : strOfNums (wi (Lb.lb n).reverse) = bs (Lb.mag n) := by
  unfold strOfNums bs Lb.mag wi
  rw [List.map_map]
  rfl
theorem io_l0 (s : ByteArray) (hs : s.size ≤ 40000) (ha : s.toList.all Rpm.dig = true) (d : Nat) : ∀ i : Nat, i + d = s.size → Ev (fun k => spec_intOf.l0 k s (wi (Lb.lb (Num.dec (s.toList.take i)))) (i : Int)) (false, bs (Lb.mag (Num.dec s.toList))) := by
  have len : ∀ i, (Lb.lb (Num.dec (s.toList.take i))).length ≤ 40000 := by
    intro i
    have h := Num.dec_lt (s.toList.take i) (by
      rw [List.all_eq_true] at ha ⊢
      intro x hx
      exact ha x (List.mem_of_mem_take hx))
    have := Lb.lb_len _ _ h
    rw [List.length_take, len_toList] at this
    omega
  induction d with
  | zero =>
    intro i hi
    have l := len i
    rw [List.take_of_length_le (by rw [len_toList]; omega)] at l ⊢
    refine Ev.step (fun k => by rw [spec_intOf.l0]) ?_
    refine ev_neg (by omega) (ev_pos (by omega) (ev_pos (by rw [wi_len]; omega) ?_))
    have := io_l2 (Lb.lb (Num.dec s.toList)) (by omega) _ 0 (Nat.zero_add _)
    rw [strOf_mag] at this
    have e : List.replicate (((wi (Lb.lb (Num.dec s.toList))).length : Int)).toNat (0 : Int) = wi (List.replicate ((Lb.lb (Num.dec s.toList)).length - 0) 0 ++ ((Lb.lb (Num.dec s.toList)).take 0).reverse) := by
      rw [Int.toNat_natCast, wi_len]
      simp [wi]
    rw [e]
    exact this
  | succ d ih =>
    intro i hi
    have hlt : i < s.size := by omega
    have l := len i
    have hd : Rpm.dig (s[i]'hlt) = true := by
      rw [List.all_eq_true] at ha
      exact ha _ (by rw [← getElem_toList s i hlt]; exact List.getElem_mem _)
    have hd' : 48 ≤ (s[i]'hlt).toNat ∧ (s[i]'hlt).toNat ≤ 57 := by simpa [Rpm.dig] using hd
    have z := ih (i + 1) (by omega)
    rw [take_next' s i hlt, Num.dec_snoc, Nat.mul_comm, ← Lb.ma_lb _ _ (by omega)] at z
    have w := wr i (by omega)
    rw [← w] at z
    have e : ((((s[i]'hlt).toNat : Int) - 48) % 256) = (((s[i]'hlt).toNat - 48 : Nat) : Int) := by omega
    refine Ev.step (fun k => by rw [spec_intOf.l0, bt_nat s i hlt, e]) ?_
    refine ev_pos (by omega) (ev_pos (by omega) ?_)
    exact io_l1 s i _ _ [] _ (by omega) (Lb.lb_small _) (by simp; omega) z
theorem intOf_ev (s : ByteArray) (hs : s.size ≤ 40000) (ha : s.toList.all Rpm.dig = true) : Ev (fun k => spec_intOf.f k s) (false, bs (Lb.mag (Num.dec s.toList))) := by
  have := io_l0 s hs ha _ 0 (Nat.zero_add _)
  rw [List.take_zero, Num.dec_nil, Lb.lb_zero] at this
  exact this
/-- A number as the program tells it. -/
def told (z : Int) : Bool × ByteArray := (decide (z < 0), bs (Lb.mag z.natAbs))
theorem sn_j1 (s : ByteArray) (hs : s.size ≤ 40000) (neg : Bool) : Ev (fun k => spec_Number.j1 k s neg) (if Num.digits s.toList then ((told (if neg then -(Num.dec s.toList : Int) else (Num.dec s.toList : Int))).1, (told (if neg then -(Num.dec s.toList : Int) else (Num.dec s.toList : Int))).2, true) else (false, ⟨#[]⟩, false)) := by
  refine Ev.step (fun k => by rw [spec_Number.j1]) ?_
  refine (allDigits_ev s (by omega)).bind ?_
  cases hd : Num.digits s.toList with
  | false => exact ev_neg (by simp) (Ev.now _)
  | true =>
    have ha : s.toList.all Rpm.dig = true := by unfold Num.digits at hd; rw [Bool.and_eq_true] at hd; exact hd.2
    refine ev_pos rfl ((intOf_ev s hs ha).bind ?_)
    simp only [if_true, told]
    cases neg with
    | false =>
      refine ev_neg (by simp) ?_
      simp only [Bool.false_eq_true, if_false, Int.natAbs_natCast]
      rw [decide_eq_false (by omega)]
      exact Ev.now _
    | true =>
      refine ev_pos rfl ?_
      simp only [if_true, Int.natAbs_neg, Int.natAbs_natCast]
      have e : ((bs (Lb.mag (Num.dec s.toList))).toList != ([] : List UInt8)) = decide (-(Num.dec s.toList : Int) < 0) := by
        rw [bs_toList, Bool.eq_iff_iff]
        simp only [bne_iff_ne, ne_eq, decide_eq_true_eq]
        constructor
        · intro h
          have : Num.dec s.toList ≠ 0 := fun e => h (by rw [e, Lb.mag_zero])
          omega
        · intro h e
          have := Lb.mag_nil e
          omega
      rw [e]
      exact Ev.now _
/-- The reference reads a number as the plain function does. -/
theorem specNumber_ev (s : ByteArray) (hs : s.size ≤ 40000) : Ev (fun k => spec_Number.f k s) (match Num.parse s.toList with | some z => ((told z).1, (told z).2, true) | none => (false, ⟨#[]⟩, false)) := by
  have fin : ∀ (t : ByteArray) (neg : Bool), t.size ≤ 40000 → Num.cutSign s.toList = (neg, t.toList) → Ev (fun k => spec_Number.j1 k t neg) (match Num.parse s.toList with | some z => ((told z).1, (told z).2, true) | none => (false, ⟨#[]⟩, false)) := by
    intro t neg ht hc
    have := sn_j1 t ht neg
    unfold Num.parse
    rw [hc]
    cases hd : Num.digits t.toList <;> (rw [hd] at this; exact this)
  unfold spec_Number.f
  by_cases h : (s.size : Int) > 0
  · have h0 : 0 < s.size := by omega
    have et := tail_eq s h0
    have b0 : bt s 0 = ((s[0]'h0).toNat : Int) := bt_nat s 0 h0
    have hx : (s.extract 1 s.size).size ≤ 40000 := by rw [ByteArray.size_extract]; omega
    refine ev_pos h (ev_pos (by omega) ?_)
    rw [b0]
    by_cases c43 : ((s[0]'h0).toNat : Int) = 43
    · refine ev_pos c43 ?_
      refine Ev.step (fun k => by rw [spec_Number.j0]) ?_
      rw [b0]
      refine ev_pos rfl (ev_pos (by omega) (ev_pos (by omega) ?_))
      have e : (((s[0]'h0).toNat : Int) == 45) = false := beq_eq_false_iff_ne.2 (by omega)
      rw [e]
      refine fin _ false hx ?_
      rw [et]
      unfold Num.cutSign
      simp only
      rw [if_neg (by omega), if_pos (by omega)]
    · refine ev_neg c43 ?_
      by_cases c45 : ((s[0]'h0).toNat : Int) = 45
      · have e : (((s[0]'h0).toNat : Int) == 45) = true := beq_iff_eq.2 c45
        rw [e]
        refine Ev.step (fun k => by rw [spec_Number.j0]) ?_
        rw [b0, e]
        refine ev_pos rfl (ev_pos (by omega) (ev_pos (by omega) ?_))
        refine fin _ true hx ?_
        rw [et]
        unfold Num.cutSign
        simp only
        rw [if_pos (by omega)]
      · have e : (((s[0]'h0).toNat : Int) == 45) = false := beq_eq_false_iff_ne.2 c45
        rw [e]
        refine Ev.step (fun k => by rw [spec_Number.j0]) ?_
        refine ev_neg (by simp) ?_
        refine fin s false hs ?_
        conv => lhs; rw [et]
        unfold Num.cutSign
        simp only
        rw [if_neg (by omega), if_neg (by omega), ← et]
  · refine ev_neg h ?_
    refine Ev.step (fun k => by rw [spec_Number.j0]) ?_
    refine ev_neg (by simp) ?_
    refine fin s false hs ?_
    have e : s.toList = [] := List.length_eq_zero_iff.1 (by rw [len_toList]; omega)
    rw [e]
    rfl
end Go.Proofs.YtfgechefinijbaaDoor.QU

namespace Go.Proofs.YtfgechefinijbaaDoor.QU
open Go.RowKit Go.Proofs.YtfgechefinijbaaDoorW.PrintWords Go.Proofs.YtfgechefinijbaaDoorW.PrintLast Go.Proofs.YtfgechefinijbaaDoor.Pk Go.Proofs.YtfgechefinijbaaDoor.Giv Go.Proofs.YtfgechefinijbaaDoor.Ord
set_option linter.unusedVariables false

theorem rd_getD (l : List ByteArray) (n : Nat) (h : n < l.length) : rdOf ByteArray.empty l (n : Int) = l.getD n ⟨#[]⟩ := by
  rw [rdOf_nat _ _ n h, List.getD_eq_getElem?_getD, List.getElem?_eq_getElem h]
  rfl
theorem specTrim_loop (l : List ByteArray) (hl : l.length < 8796093022207) : ∀ n : Nat, n ≤ l.length → Ev (fun k => spec_RubyTrim.l0 k l (n : Int)) (l.take (cutZ l n))
  | 0, _ => by
    refine Ev.step (fun k => by rw [spec_RubyTrim.l0]) ?_
    refine ev_neg (by omega) (ev_pos (by omega) (ev_pos (by omega) (ev_pos (by simp) ?_)))
    exact Ev.now _
  | n + 1, h => by
    have w : wrap64 (((n + 1 : Nat) : Int) - 1) = (n : Int) := by unfold wrap64; omega
    have r := rd_getD l n (by omega)
    refine Ev.step (fun k => by rw [spec_RubyTrim.l0, w, r]) ?_
    refine ev_pos (by omega) (ev_pos (by omega) (ev_pos (by omega) ?_))
    unfold cutZ
    by_cases hz : (l.getD n ⟨#[]⟩).toList = [48]
    · rw [if_pos hz]
      exact ev_pos hz (specTrim_loop l hl n (by omega))
    · rw [if_neg hz]
      refine ev_neg hz (ev_pos (by omega) (ev_pos (by omega) (ev_pos ?_ ?_)))
      · simp only [List.length_nil, List.length_take]
        omega
      · rw [Int.toNat_natCast, List.nil_append]
        exact Ev.now _
theorem specTrim_ev (l : List ByteArray) (hl : l.length < 8796093022207) : Ev (fun k => spec_RubyTrim.f k l) (trimZ l) := specTrim_loop l hl l.length (Nat.le_refl _)
end Go.Proofs.YtfgechefinijbaaDoor.QU

namespace Go.Proofs.YtfgechefinijbaaDoor.QU
open Go.RowKit Go.Proofs.YtfgechefinijbaaDoorW.PrintWords Go.Proofs.YtfgechefinijbaaDoorW.PrintLast Go.Proofs.YtfgechefinijbaaDoor.Pk Go.Proofs.YtfgechefinijbaaDoor.Giv Go.Proofs.YtfgechefinijbaaDoor.Ord Go.Proofs.YtfgechefinijbaaDoor.Canon
set_option linter.unusedVariables false

def bi (l : List UInt8) : List Int := l.map (fun c => (c.toNat : Int))
theorem bi_len (l : List UInt8) : (bi l).length = l.length := by simp [bi]
theorem bi_app (l m : List UInt8) : bi l ++ bi m = bi (l ++ m) := by simp [bi]
theorem strOf_bi (l : List UInt8) : strOfNums (bi l) = bs l := by
  unfold strOfNums bs bi
  rw [List.map_map]
  congr 2
  conv => rhs; rw [← List.map_id l]
  apply List.map_congr_left
  intro c _
  simp
theorem canon_no (p q : Bool) (l : List UInt8) : canon false p l = canon false q l := by
  cases l with
  | nil => rfl
  | cons c r =>
    rw [canon, canon]
    by_cases h : c = 46
    · rw [if_pos h, if_pos h, canon_no p q r]
    · rw [if_neg h, if_neg h]
      rfl
theorem canon_loop (s : ByteArray) (hs : s.size < 100000000) (d : Nat) : ∀ (i : Nat) (cp pd : Bool) (out : List UInt8), i + d = s.size → (cp = false → i = 0 ∨ ∃ h : i - 1 < s.size, s[i - 1]'h = 46) → (cp = true → 0 < i ∧ ∃ h : i - 1 < s.size, s[i - 1]'h ≠ 46 ∧ Rpm.dig (s[i - 1]'h) = pd) → out.length + 2 * d < 1000000000 →
    Ev (fun k => spec_RubyCanonical.l0 k s (bi out) (i : Int)) (bs (out ++ canon cp pd (s.toList.drop i))) := by
  induction d with
  | zero =>
    intro i cp pd out hi h0 h1 hb
    refine Ev.step (fun k => by rw [spec_RubyCanonical.l0, strOf_bi]) ?_
    refine ev_neg (by omega) ?_
    rw [List.drop_of_length_le (by rw [len_toList]; omega)]
    have : canon cp pd [] = [] := by cases cp <;> rfl
    rw [this, List.append_nil]
    exact Ev.now _
  | succ d ih =>
    intro i cp pd out hi h0 h1 hb
    have hlt : i < s.size := by omega
    have b := bt_nat s i hlt
    have w : wrap64 ((i : Int) + 1) = ((i + 1 : Nat) : Int) := wr i (by omega)
    have len : (bi out).length < 140737488355328 := by rw [bi_len]; omega
    have dr := drop_at s i hlt
    -- the byte written
    have one : bi out ++ [((s[i]'hlt).toNat : Int)] = bi (out ++ [s[i]'hlt]) := by simp [bi]
    have two : (bi out ++ [46] : List Int) = bi (out ++ [46]) := by simp [bi]
    have next : ∀ (o : List UInt8), o.length + 2 * d < 1000000000 → Ev (fun k => spec_RubyCanonical.l0 k s (bi o) ((i + 1 : Nat) : Int)) (bs (o ++ canon (decide (s[i]'hlt ≠ 46)) (Rpm.dig (s[i]'hlt)) (s.toList.drop (i + 1)))) := fun o ho => by
      refine ih (i + 1) _ _ o (by omega) (fun h => .inr ⟨by omega, ?_⟩) (fun h => ⟨by omega, by omega, ?_, ?_⟩) ho
      · have := of_decide_eq_false h
        simpa using this
      · have := of_decide_eq_true h
        simpa using this
      · simp
    have n1 := next (out ++ [s[i]'hlt]) (by simp; omega)
    rw [← one, ← w] at n1
    by_cases h46 : s[i]'hlt = 46
    · -- a point
      have hn : ((s[i]'hlt).toNat : Int) = 46 := by rw [h46]; rfl
      have V : bs (out ++ canon cp pd (s.toList.drop i)) = bs (out ++ [s[i]'hlt] ++ canon (decide (s[i]'hlt ≠ 46)) (Rpm.dig (s[i]'hlt)) (s.toList.drop (i + 1))) := by
        rw [dr]
        conv => lhs; rw [canon]
        rw [if_pos h46, decide_eq_false (by simpa using h46), canon_no (Rpm.dig (s[i]'hlt)) pd, List.append_assoc, h46]
        rfl
      rw [V]
      refine Ev.step (fun k => by rw [spec_RubyCanonical.l0, b]) ?_
      refine ev_pos (by omega) ?_
      by_cases hi0 : (i : Int) > 0
      · exact ev_pos hi0 (ev_pos (by omega) (ev_pos hn (ev_pos len n1)))
      · exact ev_neg hi0 (ev_pos (by omega) (ev_pos len n1))
    · have hn : ¬ ((s[i]'hlt).toNat : Int) = 46 := fun h => h46 (UInt8.toNat_inj.1 (by have : (46 : UInt8).toNat = 46 := rfl; omega))
      have hd : decide (s[i]'hlt ≠ 46) = true := decide_eq_true h46
      rw [hd] at n1 next
      have V : bs (out ++ canon cp pd (s.toList.drop i)) = bs (out ++ ((if (cp && (pd != Rpm.dig (s[i]'hlt))) = true then [46] else []) ++ s[i]'hlt :: canon true (Rpm.dig (s[i]'hlt)) (s.toList.drop (i + 1)))) := by
        rw [dr]
        conv => lhs; rw [canon]
        rw [if_neg h46]
      rw [V]
      refine Ev.step (fun k => by rw [spec_RubyCanonical.l0, b]) ?_
      refine ev_pos (by omega) ?_
      cases cp with
      | false =>
        have plain : Ev (fun k => spec_RubyCanonical.l0 k s (bi out ++ [((s[i]'hlt).toNat : Int)]) (wrap64 ((i : Int) + 1))) (bs (out ++ ((if (false && (pd != Rpm.dig (s[i]'hlt))) = true then [46] else []) ++ s[i]'hlt :: canon true (Rpm.dig (s[i]'hlt)) (s.toList.drop (i + 1))))) := by
          have e : (out ++ ((if (false && (pd != Rpm.dig (s[i]'hlt))) = true then [46] else []) ++ s[i]'hlt :: canon true (Rpm.dig (s[i]'hlt)) (s.toList.drop (i + 1)))) = out ++ [s[i]'hlt] ++ canon true (Rpm.dig (s[i]'hlt)) (s.toList.drop (i + 1)) := by simp
          rw [e]
          exact n1
        rcases h0 rfl with hi0 | ⟨hp, hp46⟩
        · exact ev_neg (by omega) (ev_pos (by omega) (ev_pos len plain))
        · by_cases hi0 : (i : Int) > 0
          · have wp : wrap64 ((i : Int) - 1) = ((i - 1 : Nat) : Int) := by unfold wrap64; omega
            have bp := bt_nat s (i - 1) hp
            rw [hp46] at bp
            refine ev_pos hi0 (ev_pos (by omega) (ev_neg hn ?_))
            rw [wp, bp]
            exact ev_pos (by omega) (ev_pos (by omega) (ev_pos rfl (ev_pos len plain)))
          · exact ev_neg hi0 (ev_pos (by omega) (ev_pos len plain))
      | true =>
        obtain ⟨hi0, hp, hp46, hpd⟩ := h1 rfl
        have wp : wrap64 ((i : Int) - 1) = ((i - 1 : Nat) : Int) := by unfold wrap64; omega
        have bp := bt_nat s (i - 1) hp
        have hpn : ¬ ((s[i - 1]'hp).toNat : Int) = 46 := fun h => hp46 (UInt8.toNat_inj.1 (by have : (46 : UInt8).toNat = 46 := rfl; omega))
        refine ev_pos (by omega) (ev_pos (by omega) (ev_neg hn ?_))
        rw [wp, bp]
        refine ev_pos (by omega) (ev_pos (by omega) (ev_neg hpn ?_))
        rw [isDigit_f, isDigit_f, hpd]
        refine ev_some (ev_some ?_)
        cases hx : (Rpm.dig (s[i]'hlt) != pd) with
        | true =>
          have hx' : (pd != Rpm.dig (s[i]'hlt)) = true := by rw [bne_comm]; exact hx
          refine ev_pos rfl (ev_pos len (ev_some ?_))
          rw [two]
          refine ev_pos (by rw [bi_len]; simp; omega) ?_
          have n2 := next (out ++ [46] ++ [s[i]'hlt]) (by simp; omega)
          have one2 : bi (out ++ [46]) ++ [((s[i]'hlt).toNat : Int)] = bi (out ++ [46] ++ [s[i]'hlt]) := by simp [bi]
          rw [← one2, ← w] at n2
          have e : (out ++ ((if (true && (pd != Rpm.dig (s[i]'hlt))) = true then [46] else []) ++ s[i]'hlt :: canon true (Rpm.dig (s[i]'hlt)) (s.toList.drop (i + 1)))) = out ++ [46] ++ [s[i]'hlt] ++ canon true (Rpm.dig (s[i]'hlt)) (s.toList.drop (i + 1)) := by
            rw [hx']
            simp
          rw [e]
          exact n2
        | false =>
          have hx' : (pd != Rpm.dig (s[i]'hlt)) = false := by rw [bne_comm]; exact hx
          refine ev_neg (by simp) (ev_pos len ?_)
          have e : (out ++ ((if (true && (pd != Rpm.dig (s[i]'hlt))) = true then [46] else []) ++ s[i]'hlt :: canon true (Rpm.dig (s[i]'hlt)) (s.toList.drop (i + 1)))) = out ++ [s[i]'hlt] ++ canon true (Rpm.dig (s[i]'hlt)) (s.toList.drop (i + 1)) := by
            rw [hx']
            simp
          rw [e]
          exact n1
theorem specCanon_ev (s : ByteArray) (hs : s.size < 100000000) : Ev (fun k => spec_RubyCanonical.f k s) (bs (canon false true s.toList)) := by
  have := canon_loop s hs s.size 0 false true [] (by omega) (fun _ => .inl rfl) (fun h => absurd h (by simp)) (by simp; omega)
  rw [List.drop_zero, List.nil_append] at this
  exact this
end Go.Proofs.YtfgechefinijbaaDoor.QU

namespace Go.Proofs.YtfgechefinijbaaDoor.QU
open Go.RowKit Go.Proofs.YtfgechefinijbaaDoorW.PrintWords Go.Proofs.YtfgechefinijbaaDoorW.PrintLast Go.Proofs.YtfgechefinijbaaDoor.Pk Go.Proofs.YtfgechefinijbaaDoor.Giv Go.Proofs.YtfgechefinijbaaDoor.Ord
theorem rubyNumber_ev (s : ByteArray) (hs : s.size ≤ 40000) : Ev (fun k => spec_rubyNumber.f k s) (isNum s) := by
  unfold spec_rubyNumber.f isNum
  refine (specNumber_ev s hs).bind ?_
  cases Num.parse s.toList <;> exact Ev.now _
theorem tw_at {α : Type} (p : α → Bool) (l : List α) (i : Nat) (h : (l.take i).all p = true) (hn : ∀ h : i < l.length, p (l[i]'h) = false) (hi : i ≤ l.length) : l.take i = l.takeWhile p ∧ l.drop i = l.dropWhile p := by
  have e := take_while_at p l i h hn hi
  have a : l.take i = l.takeWhile p := by rw [← e]; exact take_while_take p l
  refine ⟨a, ?_⟩
  have b := List.take_append_drop i l
  have c := List.takeWhile_append_dropWhile (p := p) (l := l)
  rw [a] at b
  exact List.append_cancel_left (b.trans c.symm)
theorem groups_loop (l : List ByteArray) (hl : l.length < 100000) (hs : ∀ s ∈ l, s.size ≤ 40000) (d : Nat) : ∀ i : Nat, i + d = l.length → (l.take i).all isNum = true → Ev (fun k => spec_RubyGroups.l0 k l (i : Int)) (l.takeWhile isNum, l.dropWhile isNum) := by
  induction d with
  | zero =>
    intro i hi ha
    obtain ⟨a, b⟩ := tw_at isNum l i ha (fun h => absurd h (by omega)) (by omega)
    refine Ev.step (fun k => by rw [spec_RubyGroups.l0, Int.toNat_natCast, a, b]) ?_
    refine ev_neg (by omega) (ev_pos (by omega) (ev_pos (by omega) (ev_pos ?_ (ev_pos ?_ (Ev.now _)))))
    · rw [← a]; simp; omega
    · rw [← b]; simp; omega
  | succ d ih =>
    intro i hi ha
    have hlt : i < l.length := by omega
    have r := rdOf_nat ByteArray.empty l i hlt
    have w := wr i (by omega)
    have n := rubyNumber_ev (l[i]'hlt) (hs _ (List.getElem_mem hlt))
    refine Ev.step (fun k => by rw [spec_RubyGroups.l0, r, w]) ?_
    refine ev_pos (by omega) (ev_pos (by omega) (n.bind ?_))
    cases hn : isNum (l[i]'hlt) with
    | true =>
      refine ev_pos rfl (ih (i + 1) (by omega) ?_)
      rw [List.take_succ_eq_append_getElem hlt, List.all_append, ha]
      simp [hn]
    | false =>
      obtain ⟨a, b⟩ := tw_at isNum l i ha (fun _ => hn) (by omega)
      refine ev_neg (by simp) (ev_pos (by omega) ?_)
      rw [Int.toNat_natCast, a, b]
      refine ev_pos ?_ (ev_pos ?_ (Ev.now _))
      · rw [← a]; simp; omega
      · rw [← b]; simp; omega
theorem groups_ev (l : List ByteArray) (hl : l.length < 100000) (hs : ∀ s ∈ l, s.size ≤ 40000) : Ev (fun k => spec_RubyGroups.f k l) (l.takeWhile isNum, l.dropWhile isNum) := groups_loop l hl hs l.length 0 (by omega) (by simp)
end Go.Proofs.YtfgechefinijbaaDoor.QU

namespace Go.Proofs.YtfgechefinijbaaDoor.QU
open Go.RowKit Go.Proofs.YtfgechefinijbaaDoorW.PrintWords Go.Proofs.YtfgechefinijbaaDoorW.PrintLast Go.Proofs.YtfgechefinijbaaDoor.Pk Go.Proofs.YtfgechefinijbaaDoor.Giv Go.Proofs.YtfgechefinijbaaDoor.Ord
set_option linter.unusedVariables false

/-- A zero ahead of digits. -/
def zer (s : ByteArray) : Bool := decide (1 < s.size) && (decide (bt s 0 = 48) && Num.digits s.toList)
def rbK (l : List ByteArray) : Bool := l.all (fun s => !zer s) && idK l
theorem rbKnown_loop (l : List ByteArray) (hl : l.length < 4611686018427387904) (hs : ∀ s ∈ l, s.size < 4611686018427387904) (d : Nat) : ∀ i : Nat, i + d = l.length → Ev (fun k => spec_RubySegmentsKnown.l0 k l (i : Int)) ((l.drop i).all (fun s => !zer s) && idK l) := by
  induction d with
  | zero =>
    intro i hi
    refine Ev.step (fun k => by rw [spec_RubySegmentsKnown.l0]) ?_
    refine ev_neg (by omega) ?_
    rw [List.drop_of_length_le (by omega), List.all_nil, Bool.true_and]
    exact (idKnown_ev l hl hs).bind (Ev.now _)
  | succ d ih =>
    intro i hi
    have hlt : i < l.length := by omega
    have w := wr i (by omega)
    have r := rdOf_nat ByteArray.empty l i hlt
    have hz := hs _ (List.getElem_mem hlt)
    have nx := ih (i + 1) (by omega)
    rw [List.drop_eq_getElem_cons hlt, List.all_cons, Bool.and_assoc]
    generalize l[i]'hlt = s at *
    refine Ev.step (fun k => by rw [spec_RubySegmentsKnown.l0, w, r]) ?_
    refine ev_pos (by omega) (ev_pos (by omega) ?_)
    unfold zer
    by_cases h1 : (s.size : Int) > 1
    · rw [decide_eq_true (by omega), Bool.true_and]
      refine ev_pos h1 (ev_pos (by omega) ?_)
      by_cases c1 : bt s 0 = 48
      · rw [decide_eq_true c1, Bool.true_and]
        refine ev_pos c1 ((allDigits_ev s hz).bind ?_)
        cases Num.digits s.toList with
        | true => exact ev_pos rfl (Ev.now _)
        | false => exact ev_neg (by simp) nx
      · rw [decide_eq_false c1, Bool.false_and, Bool.not_false, Bool.true_and]
        exact ev_neg c1 nx
    · rw [decide_eq_false (by omega), Bool.false_and, Bool.not_false, Bool.true_and]
      exact ev_neg h1 nx
theorem rbKnown_ev (l : List ByteArray) (hl : l.length < 4611686018427387904) (hs : ∀ s ∈ l, s.size < 4611686018427387904) : Ev (fun k => spec_RubySegmentsKnown.f k l) (rbK l) := rbKnown_loop l hl hs l.length 0 (by omega)
theorem rbK_id {l : List ByteArray} (h : rbK l = true) : idK l = true := by
  unfold rbK at h
  rw [Bool.and_eq_true] at h
  exact h.2

end Go.Proofs.YtfgechefinijbaaDoor.QU

namespace Go.Proofs.YtfgechefinijbaaDoor.QU
open Go.RowKit Go.Proofs.YtfgechefinijbaaDoorW.PrintWords Go.Proofs.YtfgechefinijbaaDoorW.PrintLast Go.Proofs.YtfgechefinijbaaDoor.Pk Go.Proofs.YtfgechefinijbaaDoor.Giv
set_option linter.unusedVariables false

theorem texts_loop (l m : List ByteArray) (hl : l.length < 4611686018427387904) (hlm : l.length = m.length) (d : Nat) : ∀ i : Nat, i + d = l.length → Ev (fun k => laws_texts.l0 k l m (l.length : Int) (i : Int)) (decide (l.drop i = m.drop i)) := by
  induction d with
  | zero =>
    intro i hi
    refine Ev.step (fun k => by rw [laws_texts.l0]) ?_
    refine ev_neg (by omega) ?_
    rw [List.drop_of_length_le (by omega), List.drop_of_length_le (by omega)]
    exact Ev.now _
  | succ d ih =>
    intro i hi
    have h1 : i < l.length := by omega
    have h2 : i < m.length := by omega
    have r1 := rdOf_nat ByteArray.empty l i h1
    have r2 := rdOf_nat ByteArray.empty m i h2
    have w := wr i (by omega)
    refine Ev.step (fun k => by rw [laws_texts.l0, r1, r2, w]) ?_
    refine ev_pos (by omega) (ev_pos (by omega) (ev_pos (by omega) (ev_pos (by omega) ?_)))
    rw [List.drop_eq_getElem_cons h1, List.drop_eq_getElem_cons h2]
    by_cases h : l[i].toList = m[i].toList
    · have e := eq_of_toList h
      refine ev_pos h ?_
      have z := ih (i + 1) (by omega)
      rw [show decide (l[i] :: l.drop (i + 1) = m[i] :: m.drop (i + 1)) = decide (l.drop (i + 1) = m.drop (i + 1)) by
        rw [decide_eq_decide, e]
        exact ⟨fun h' => (List.cons.inj h').2, fun h' => congrArg _ h'⟩]
      exact z
    · refine ev_neg h ?_
      rw [show decide (l[i] :: l.drop (i + 1) = m[i] :: m.drop (i + 1)) = false by
        rw [decide_eq_false_iff_not]
        intro e
        injection e with e1 e2
        exact h (by rw [e1])]
      exact Ev.now _
theorem texts_ev (l m : List ByteArray) (hl : l.length < 4611686018427387904) : Ev (fun k => laws_texts.f k l m) (decide (l = m)) := by
  unfold laws_texts.f
  by_cases h : l.length = m.length
  · refine ev_pos (by omega) ?_
    have := texts_loop l m hl h l.length 0 (by omega)
    simpa using this
  · refine ev_neg (by omega) ?_
    rw [show decide (l = m) = false by
      rw [decide_eq_false_iff_not]
      intro e
      exact h (by rw [e])]
    exact Ev.now _
end Go.Proofs.YtfgechefinijbaaDoor.QU
