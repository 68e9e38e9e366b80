/- 'short': of lists of texts.
   What the reference answers: digits.
   What the reference answers of numbers in decimal: their bytes, and which texts are numbers.
   Lists of plain numbers compared by the laws.
   The parts of a version like those of SemVer, as the reference tells them. -/
import Derived.Test.YtjcebbcceohmkaaDoorZD
import Derived.Test.YtjcebbcceohmkaaDoorQLx
import Derived.Test.YtjcebbcceohmkaaDoorZA
import Derived.Test.YtjcebbcceohmkaaDoorZY
import Derived.Test.YtjcebbcceohmkaaDoorZLO
namespace Go.Proofs.YtjcebbcceohmkaaDoor.QL
open Go.RowKit Go.Proofs.YtjcebbcceohmkaaDoorW.PrintWords Go.Proofs.YtjcebbcceohmkaaDoorW.PrintLast Go.Proofs.YtjcebbcceohmkaaDoor.Pk Go.Proofs.YtjcebbcceohmkaaDoor.Giv
set_option linter.unusedVariables false

/-- Are all texts short, and not many of them? -/
def shortB (l : List ByteArray) : Bool := l.all (fun s => decide (s.size ≤ 1500)) && decide (l.length ≤ 150)
theorem short_loop (l : List ByteArray) (hl : l.length < 4611686018427387904) (d : Nat) : ∀ i : Nat, i + d = l.length → Ev (fun k => laws_short.l0 k l l (l.length : Int) (i : Int)) ((l.drop i).all (fun s => decide (s.size ≤ 1500)) && decide (l.length ≤ 150)) := by
  induction d with
  | zero =>
    intro i hi
    refine Ev.step (fun k => by rw [laws_short.l0]) ?_
    refine ev_neg (by omega) ?_
    rw [List.drop_of_length_le (by omega)]
    have e : decide ((l.length : Int) ≤ 150) = ([].all (fun s : ByteArray => decide (s.size ≤ 1500)) && decide (l.length ≤ 150)) := by
      rw [List.all_nil, Bool.true_and, decide_eq_decide]
      omega
    rw [← e]
    exact Ev.now _
  | succ d ih =>
    intro i hi
    have hlt : i < l.length := by omega
    have r := rdOf_nat ByteArray.empty l i hlt
    have w := wr i (by omega)
    refine Ev.step (fun k => by rw [laws_short.l0, r, w]) ?_
    refine ev_pos (by omega) (ev_pos (by omega) (ev_pos (by omega) ?_))
    rw [List.drop_eq_getElem_cons hlt, List.all_cons]
    by_cases h : ((l[i].size : Int)) > 1500
    · refine ev_pos h ?_
      have e : decide (l[i].size ≤ 1500) = false := by rw [decide_eq_false_iff_not]; omega
      rw [e]
      exact Ev.now _
    · refine ev_neg h ?_
      have e : decide (l[i].size ≤ 1500) = true := by rw [decide_eq_true_eq]; omega
      rw [e, Bool.true_and]
      exact ih (i + 1) (by omega)
theorem short_ev (l : List ByteArray) (hl : l.length < 4611686018427387904) : Ev (fun k => laws_short.f k l) (shortB l) := short_loop l hl l.length 0 (by omega)
theorem short_sizes {l : List ByteArray} (h : shortB l = true) : ∀ s ∈ l, s.size ≤ 1500 := by
  unfold shortB at h
  rw [Bool.and_eq_true, List.all_eq_true] at h
  intro s hs
  simpa using h.1 s hs
theorem short_len {l : List ByteArray} (h : shortB l = true) : l.length ≤ 150 := by
  unfold shortB at h
  rw [Bool.and_eq_true] at h
  simpa using h.2
end Go.Proofs.YtjcebbcceohmkaaDoor.QL

namespace Go.Proofs.YtjcebbcceohmkaaDoor.QL
open Go.RowKit Go.Proofs.YtjcebbcceohmkaaDoorW.PrintWords Go.Proofs.YtjcebbcceohmkaaDoorW.PrintLast Go.Proofs.YtjcebbcceohmkaaDoor.Pk Go.Proofs.YtjcebbcceohmkaaDoor.Giv Go.Proofs.YtjcebbcceohmkaaDoor.Ord
set_option linter.unusedVariables false

theorem isDigit_f (c : UInt8) : spec_isDigit.f (c.toNat : Int) = some (Rpm.dig c) := by
  unfold spec_isDigit.f Rpm.dig
  by_cases h : (c.toNat : Int) ≥ 48
  · rw [if_pos h]
    congr 1
    rw [decide_eq_decide]
    omega
  · rw [if_neg h]
    congr 1
    rw [eq_comm, decide_eq_false_iff_not]
    omega
theorem allDigits_loop (s : ByteArray) (hs : s.size < 4611686018427387904) (d : Nat) : ∀ i : Nat, i + d = s.size → Ev (fun k => spec_allDigits.l0 k s (i : Int)) ((s.toList.drop i).all Rpm.dig && decide (s.size > 0)) := by
  induction d with
  | zero =>
    intro i hi
    refine Ev.step (fun k => by rw [spec_allDigits.l0]) ?_
    refine ev_neg (by omega) ?_
    rw [List.drop_of_length_le (by rw [len_toList]; omega), List.all_nil, Bool.true_and]
    have e : decide ((s.size : Int) > 0) = decide (s.size > 0) := by rw [decide_eq_decide]; omega
    rw [← e]
    exact Ev.now _
  | succ d ih =>
    intro i hi
    have hlt : i < s.size := by omega
    have w := wr i (by omega)
    refine Ev.step (fun k => by rw [spec_allDigits.l0, bt_nat s i hlt, w, isDigit_f]) ?_
    refine ev_pos (by omega) (ev_pos (by omega) (ev_some ?_))
    rw [drop_at s i hlt, List.all_cons]
    cases hd : Rpm.dig (s[i]'hlt) with
    | true => exact ev_pos rfl (ih (i + 1) (by omega))
    | false => exact ev_neg (by simp) (Ev.now _)
theorem allDigits_ev (s : ByteArray) (hs : s.size < 4611686018427387904) : Ev (fun k => spec_allDigits.f k s) (Num.digits s.toList) := by
  unfold spec_allDigits.f
  have := allDigits_loop s hs s.size 0 (by omega)
  have e : ((s.toList.drop 0).all Rpm.dig && decide (s.size > 0)) = Num.digits s.toList := by
    unfold Num.digits
    rw [List.drop_zero, Bool.and_comm]
    congr 1
    rw [Bool.eq_iff_iff, ← len_toList]
    simp [List.length_pos_iff]
  rw [← e]
  exact this
end Go.Proofs.YtjcebbcceohmkaaDoor.QL

namespace Go.Proofs.YtjcebbcceohmkaaDoor.QL
open Go.RowKit Go.Proofs.YtjcebbcceohmkaaDoorW.PrintWords Go.Proofs.YtjcebbcceohmkaaDoorW.PrintLast Go.Proofs.YtjcebbcceohmkaaDoor.Pk Go.Proofs.YtjcebbcceohmkaaDoor.Giv Go.Proofs.YtjcebbcceohmkaaDoor.Ord
set_option linter.unusedVariables false

theorem pi_tail (s : ByteArray) (h : 0 < s.size) : s.toList = s[0]'h :: (s.extract 1 s.size).toList := by
  rw [ext_all]
  have := drop_at s 0 h
  simpa using this
def wi (l : List Nat) : List Int := l.map Int.ofNat
theorem wi_len (l : List Nat) : (wi l).length = l.length := by simp [wi]
theorem wi_rd (p : List Nat) (x : Nat) (r : List Nat) : rd (wi (p ++ x :: r)) (p.length : Int) = (x : Int) := by
  rw [rd_nat _ _ (by rw [wi_len]; simp)]
  simp [wi]
theorem wi_set (p : List Nat) (x : Nat) (r : List Nat) (y : Nat) : (wi (p ++ x :: r)).set p.length (y : Int) = wi (p ++ y :: r) := by
  unfold wi
  rw [List.map_append, List.map_cons, List.set_append_right _ _ (by simp), List.length_map, Nat.sub_self, List.map_append, List.map_cons]
  rfl
theorem io_step (c x : Nat) (hc : c ≤ 9) (hx : x < 256) : (Int.tmod (wrap64 ((c : Int) + (wrap64 (10 * (wrap64 (x : Int)))))) 256) % 256 = (((c + 10 * x) % 256 : Nat) : Int) ∧ wrap64 (Int.tdiv (wrap64 ((c : Int) + (wrap64 (10 * (wrap64 (x : Int)))))) 256) = (((c + 10 * x) / 256 : Nat) : Int) := by
  have w1 : wrap64 (x : Int) = x := by unfold wrap64; omega
  have w2 : wrap64 (10 * (x : Int)) = 10 * x := by unfold wrap64; omega
  have w3 : wrap64 ((c : Int) + 10 * x) = ((c + 10 * x : Nat) : Int) := by unfold wrap64; omega
  rw [w1, w2, w3]
  have a : Int.tmod ((c + 10 * x : Nat) : Int) 256 = (((c + 10 * x) % 256 : Nat) : Int) := Int.ofNat_tmod _ _ |>.symm
  have b : Int.tdiv ((c + 10 * x : Nat) : Int) 256 = (((c + 10 * x) / 256 : Nat) : Int) := Int.ofNat_tdiv _ _ |>.symm
  rw [a, b]
  refine ⟨by omega, by unfold wrap64; omega⟩
theorem io_l1 (s : ByteArray) (i : Nat) (V : Bool × ByteArray) (r : List Nat) : ∀ (p : List Nat) (c : Nat), c ≤ 9 → (∀ x ∈ r, x < 256) → p.length + r.length < 100000 → Ev (fun k => spec_intOf.l0 k s (wi (p ++ Lb.ma c r)) (wrap64 ((i : Int) + 1))) V → Ev (fun k => spec_intOf.l1 k s (wi (p ++ r)) (i : Int) (c : Int) (p.length : Int)) V := by
  induction r with
  | nil =>
    intro p c hc _ hl nx
    rw [List.append_nil]
    refine Ev.step (fun k => by rw [spec_intOf.l1]) ?_
    refine ev_neg (by rw [wi_len]; omega) ?_
    rw [Lb.ma] at nx
    by_cases hz : c = 0
    · rw [if_pos hz, List.append_nil] at nx
      exact ev_neg (by omega) nx
    · rw [if_neg hz] at nx
      refine ev_pos (by omega) (ev_pos (by rw [wi_len]; omega) ?_)
      have e : wi p ++ [(c : Int) % 256] = wi (p ++ [c]) := by
        unfold wi
        rw [List.map_append, show (c : Int) % 256 = (c : Int) by omega]
        rfl
      rw [e]
      exact nx
  | cons x r ih =>
    intro p c hc hs hl nx
    have hx := hs x List.mem_cons_self
    have w := wr p.length (by simp at hl; omega)
    obtain ⟨a, b⟩ := io_step c x hc hx
    have z := ih (p ++ [(c + 10 * x) % 256]) ((c + 10 * x) / 256) (by omega) (fun y hy => hs y (List.mem_cons_of_mem _ hy)) (by simp at hl ⊢; omega) (by
      rw [Lb.ma] at nx
      rw [List.append_assoc]
      exact nx)
    rw [List.append_assoc, List.length_append, List.length_singleton] at z
    refine Ev.step (fun k => by rw [spec_intOf.l1, wi_rd, a, b, w, Int.toNat_natCast, wi_set]) ?_
    refine ev_pos (by rw [wi_len]; simp; omega) (ev_pos (by omega) ?_)
    exact z
theorem io_l2 (l : List Nat) (hl : l.length < 100000) (d : Nat) : ∀ j : Nat, j + d = l.length → Ev (fun k => spec_intOf.l2 k (wi l) (wi (List.replicate (l.length - j) 0 ++ (l.take j).reverse)) (j : Int)) (false, strOfNums (wi l.reverse)) := by
  induction d with
  | zero =>
    intro j hj
    refine Ev.step (fun k => by rw [spec_intOf.l2]) ?_
    refine ev_neg (by rw [wi_len]; omega) ?_
    rw [show l.length - j = 0 by omega, List.replicate_zero, List.nil_append, List.take_of_length_le (by omega)]
    exact Ev.now _
  | succ d ih =>
    intro j hj
    have hlt : j < l.length := by omega
    have w := wr j (by omega)
    have w1 : wrap64 ((wrap64 (((wi l).length : Int) - 1)) - (j : Int)) = ((l.length - 1 - j : Nat) : Int) := by
      rw [wi_len]
      unfold wrap64
      omega
    have r : rd (wi l) (j : Int) = ((l[j]'hlt : Nat) : Int) := by
      rw [rd_nat _ _ (by rw [wi_len]; exact hlt)]
      simp [wi]
    have e : (wi (List.replicate (l.length - j) 0 ++ (l.take j).reverse)).set (l.length - 1 - j) ((l[j]'hlt : Nat) : Int) = wi (List.replicate (l.length - (j + 1)) 0 ++ (l.take (j + 1)).reverse) := by
      have q := wi_set (List.replicate (l.length - (j + 1)) 0) 0 (l.take j).reverse (l[j]'hlt)
      rw [List.length_replicate] at q
      rw [show l.length - j = (l.length - (j + 1)) + 1 by omega, List.replicate_succ', List.append_assoc, List.take_succ_eq_append_getElem hlt, List.reverse_append, show l.length - 1 - j = l.length - (j + 1) by omega]
      exact q
    have z := ih (j + 1) (by omega)
    refine Ev.step (fun k => by rw [spec_intOf.l2, w1, r, w, Int.toNat_natCast, e]) ?_
    refine ev_pos (by rw [wi_len]; omega) (ev_pos (by omega) (ev_pos (by omega) (ev_pos ?_ z)))
    rw [wi_len, List.length_append, List.length_replicate, List.length_reverse, List.length_take]
    omega
theorem strOf_mag (n : Nat) : strOfNums (wi (Lb.lb n).reverse) = bs (Lb.mag n) := by
  unfold strOfNums bs Lb.mag wi
  rw [List.map_map]
  rfl
theorem io_l0 (s : ByteArray) (hs : s.size ≤ 40000) (ha : s.toList.all Rpm.dig = true) (d : Nat) : ∀ i : Nat, i + d = s.size → Ev (fun k => spec_intOf.l0 k s (wi (Lb.lb (Num.dec (s.toList.take i)))) (i : Int)) (false, bs (Lb.mag (Num.dec s.toList))) := by
  have len : ∀ i, (Lb.lb (Num.dec (s.toList.take i))).length ≤ 40000 := by
    intro i
    have h := Num.dec_lt (s.toList.take i) (by
      rw [List.all_eq_true] at ha ⊢
      intro x hx
      exact ha x (List.mem_of_mem_take hx))
    have := Lb.lb_len _ _ h
    rw [List.length_take, len_toList] at this
    omega
  induction d with
  | zero =>
    intro i hi
    have l := len i
    rw [List.take_of_length_le (by rw [len_toList]; omega)] at l ⊢
    refine Ev.step (fun k => by rw [spec_intOf.l0]) ?_
    refine ev_neg (by omega) (ev_pos (by omega) (ev_pos (by rw [wi_len]; omega) ?_))
    have := io_l2 (Lb.lb (Num.dec s.toList)) (by omega) _ 0 (Nat.zero_add _)
    rw [strOf_mag] at this
    have e : List.replicate (((wi (Lb.lb (Num.dec s.toList))).length : Int)).toNat (0 : Int) = wi (List.replicate ((Lb.lb (Num.dec s.toList)).length - 0) 0 ++ ((Lb.lb (Num.dec s.toList)).take 0).reverse) := by
      rw [Int.toNat_natCast, wi_len]
      simp [wi]
    rw [e]
    exact this
  | succ d ih =>
    intro i hi
    have hlt : i < s.size := by omega
    have l := len i
    have hd : Rpm.dig (s[i]'hlt) = true := by
      rw [List.all_eq_true] at ha
      exact ha _ (by rw [← getElem_toList s i hlt]; exact List.getElem_mem _)
    have hd' : 48 ≤ (s[i]'hlt).toNat ∧ (s[i]'hlt).toNat ≤ 57 := by simpa [Rpm.dig] using hd
    have z := ih (i + 1) (by omega)
    rw [take_next' s i hlt, Num.dec_snoc, Nat.mul_comm, ← Lb.ma_lb _ _ (by omega)] at z
    have w := wr i (by omega)
    rw [← w] at z
    have e : ((((s[i]'hlt).toNat : Int) - 48) % 256) = (((s[i]'hlt).toNat - 48 : Nat) : Int) := by omega
    refine Ev.step (fun k => by rw [spec_intOf.l0, bt_nat s i hlt, e]) ?_
    refine ev_pos (by omega) (ev_pos (by omega) ?_)
    exact io_l1 s i _ _ [] _ (by omega) (Lb.lb_small _) (by simp; omega) z
theorem intOf_ev (s : ByteArray) (hs : s.size ≤ 40000) (ha : s.toList.all Rpm.dig = true) : Ev (fun k => spec_intOf.f k s) (false, bs (Lb.mag (Num.dec s.toList))) := by
  have := io_l0 s hs ha _ 0 (Nat.zero_add _)
  rw [List.take_zero, Num.dec_nil, Lb.lb_zero] at this
  exact this
/-- A number as the program tells it. -/
def told (z : Int) : Bool × ByteArray := (decide (z < 0), bs (Lb.mag z.natAbs))
end Go.Proofs.YtjcebbcceohmkaaDoor.QL

namespace Go.Proofs.YtjcebbcceohmkaaDoor.QL
open Go.RowKit Go.Proofs.YtjcebbcceohmkaaDoorW.PrintWords Go.Proofs.YtjcebbcceohmkaaDoorW.PrintLast Go.Proofs.YtjcebbcceohmkaaDoor.Pk Go.Proofs.YtjcebbcceohmkaaDoor.Giv Go.Proofs.YtjcebbcceohmkaaDoor.Ord
set_option linter.unusedVariables false
theorem ints_loop (l : List S42) (hl : l.length < 4611686018427387904) (d : Nat) : ∀ i : Nat, i + d = l.length → Ev (fun k => laws_ints.l0 k l l (l.length : Int) (i : Int)) true := by
  induction d with
  | zero =>
    intro i hi
    refine Ev.step (fun k => by rw [laws_ints.l0]) ?_
    refine ev_neg (by omega) ?_
    exact Ev.now _
  | succ d ih =>
    intro i hi
    have w := wr i (by omega)
    refine Ev.step (fun k => by rw [laws_ints.l0, w]) ?_
    refine ev_pos (by omega) (ev_pos (by omega) (ev_pos (by omega) (ev_pos (by omega) (ev_neg (by simp) ?_))))
    exact ih (i + 1) (by omega)
theorem ints_ev (l : List S42) (hl : l.length < 4611686018427387904) : Ev (fun k => laws_ints.f k l l) true := by
  unfold laws_ints.f
  exact ev_pos rfl (ints_loop l hl l.length 0 (Nat.zero_add _))
end Go.Proofs.YtjcebbcceohmkaaDoor.QL

namespace Go.Proofs.YtjcebbcceohmkaaDoor.QL
open Go.RowKit Go.Proofs.YtjcebbcceohmkaaDoorW.PrintWords Go.Proofs.YtjcebbcceohmkaaDoorW.PrintLast Go.Proofs.YtjcebbcceohmkaaDoor.Pk Go.Proofs.YtjcebbcceohmkaaDoor.Giv Go.Proofs.YtjcebbcceohmkaaDoor.Ord
set_option linter.unusedVariables false
theorem cut_sub (c : UInt8) : ∀ (l : List UInt8) (p : List UInt8), p ∈ Cut.cutAt c l → ∀ x ∈ p, x ∈ l ∧ x ≠ c
  | [], p, h => fun x hx => by
    have h : p ∈ [[]] := h
    rw [List.mem_singleton.1 h] at hx
    exact absurd hx List.not_mem_nil
  | y :: r, p, h => fun x hx => by
    unfold Cut.cutAt at h
    by_cases hy : y = c
    · rw [if_pos hy] at h
      rcases List.mem_cons.1 h with e | h
      · rw [e] at hx
        exact absurd hx List.not_mem_nil
      · obtain ⟨h1, h2⟩ := cut_sub c r p h x hx
        exact ⟨List.mem_cons_of_mem _ h1, h2⟩
    · rw [if_neg hy] at h
      cases he : Cut.cutAt c r with
      | nil => exact absurd he (Cut.cutAt_ne c r)
      | cons a t =>
        rw [he] at h
        rcases List.mem_cons.1 h with e | h
        · rw [e] at hx
          rcases List.mem_cons.1 hx with e2 | hx
          · rw [e2]; exact ⟨List.mem_cons_self, hy⟩
          · obtain ⟨h1, h2⟩ := cut_sub c r a (by rw [he]; exact List.mem_cons_self) x hx
            exact ⟨List.mem_cons_of_mem _ h1, h2⟩
        · obtain ⟨h1, h2⟩ := cut_sub c r p (by rw [he]; exact List.mem_cons_of_mem _ h) x hx
          exact ⟨List.mem_cons_of_mem _ h1, h2⟩
def pnN (ps : List (List UInt8)) : List S42 := (ps.filter (fun q => !q.isEmpty)).map (fun q => ⟨false, bs (Lb.mag (Num.dec q))⟩)
theorem pnN_eq (ps : List (List UInt8)) : pnN ps = pn (Slk.nonE ps) := by
  unfold pnN Slk.nonE pn
  rw [List.map_map]
  refine List.map_congr_left (fun q _ => ?_)
  show (⟨false, bs (Lb.mag (Num.dec q))⟩ : S42) = ⟨decide ((Num.dec q : Int) < 0), bs (Lb.mag ((Num.dec q : Int)).natAbs)⟩
  rw [decide_eq_false (by omega), Int.natAbs_natCast]
theorem lp_l1 (x : ByteArray) (e : Nat) (he : e ≤ x.size) (lv : Bool) (b o : ByteArray) (ps : List (List UInt8)) (hl : ps.length < 1000000) (hp : ∀ q ∈ ps, q.length ≤ 40000 ∧ q.all Rpm.dig = true) (d : Nat) : ∀ (i : Nat) (acc : List S42), i + d = ps.length → acc.length ≤ i → Ev (fun k => spec_LikeParse.l1 k x (e : Int) (ps.map bs) (i : Int) lv acc b o) (lv, acc ++ pnN (ps.drop i), x.extract e x.size, o) := by
  induction d with
  | zero =>
    intro i acc hi ha
    refine Ev.step (fun k => by rw [spec_LikeParse.l1, List.length_map, Int.toNat_natCast]) ?_
    refine ev_neg (by omega) (ev_pos (by omega) (ev_pos (by omega) ?_))
    rw [List.drop_of_length_le (by omega)]
    show Ev (fun _ => some (lv, acc, x.extract e x.size, o)) (lv, acc ++ [], x.extract e x.size, o)
    rw [List.append_nil]
    exact Ev.now _
  | succ d ih =>
    intro i acc hi ha
    have hlt : i < ps.length := by omega
    have w := wr i (by omega)
    have hr : rdOf ByteArray.empty (ps.map bs) (i : Int) = bs (ps[i]'hlt) := by
      rw [rdOf_nat _ _ i (by rw [List.length_map]; exact hlt), List.getElem_map]
    refine Ev.step (fun k => by rw [spec_LikeParse.l1, List.length_map, hr, w, bs_toList]) ?_
    refine ev_pos (by omega) (ev_pos (by omega) ?_)
    rw [List.drop_eq_getElem_cons hlt]
    obtain ⟨h1, h2⟩ := hp _ (List.getElem_mem hlt)
    generalize ps[i]'hlt = q at *
    by_cases h0 : q = []
    · refine ev_pos h0 ?_
      have := ih (i + 1) acc (by omega) (by omega)
      rw [h0]
      exact this
    · have io := intOf_ev (bs q) (by rw [bs_size]; exact h1) (by rw [bs_toList]; exact h2)
      rw [bs_toList] at io
      refine ev_neg h0 (io.bind (ev_pos (by omega) ?_))
      have := ih (i + 1) (acc ++ [⟨false, bs (Lb.mag (Num.dec q))⟩]) (by omega) (by rw [List.length_append, List.length_singleton]; omega)
      have e2 : pnN (q :: ps.drop (i + 1)) = ⟨false, bs (Lb.mag (Num.dec q))⟩ :: pnN (ps.drop (i + 1)) := by
        unfold pnN
        rw [List.filter_cons_of_pos (by cases q with | nil => exact absurd rfl h0 | cons => rfl), List.map_cons]
      rw [e2]
      rw [List.append_assoc] at this
      exact this
theorem tw_at (l : List UInt8) : ∀ (i : Nat), (l.take i).all Slk.dp = true → i ≤ l.length → (∀ h : i < l.length, Slk.dp (l[i]'h) = false) → (l.takeWhile Slk.dp).length = i := by
  induction l with
  | nil =>
    intro i _ hi _
    have e : i = 0 := Nat.le_zero.1 hi
    rw [e]
    rfl
  | cons c r ih =>
    intro i ht hi hn
    cases i with
    | zero =>
      have := hn (by simp)
      rw [List.takeWhile_cons_of_neg (by simpa using this)]
      rfl
    | succ i =>
      rw [List.take_succ_cons, List.all_cons, Bool.and_eq_true] at ht
      rw [List.takeWhile_cons_of_pos ht.1, List.length_cons, ih i ht.2 (by simpa using hi) (fun h => hn (by simpa using h))]
theorem lp_j3 (x : ByteArray) (hx : x.size ≤ 40000) (lv : Bool) (b o : ByteArray) : Ev (fun k => spec_LikeParse.j3 k x (((x.toList.takeWhile Slk.dp).length : Nat) : Int) lv b o) (lv, pn (Slk.nonE (Cut.cutAt 46 (x.toList.takeWhile Slk.dp))), bs (x.toList.dropWhile Slk.dp), o) := by
  have he : (x.toList.takeWhile Slk.dp).length ≤ x.size := by
    rw [← len_toList]
    exact tw_le _ _
  have ex : x.extract 0 (((x.toList.takeWhile Slk.dp).length : Nat) : Int).toNat = bs (x.toList.takeWhile Slk.dp) := bs_eq (by rw [Int.toNat_natCast, ext_head, take_tw])
  have cf : Giv.spec_cut_isPoint.f (bs (x.toList.takeWhile Slk.dp)) = some ((Cut.cutAt 46 (x.toList.takeWhile Slk.dp)).map bs) := by
    unfold Giv.spec_cut_isPoint.f
    rw [if_pos (by rw [bs_size]; omega), bs_toList]
  obtain ⟨c1, c2⟩ := Cut.cutAt_sizes 46 (x.toList.takeWhile Slk.dp)
  refine Ev.step (fun k => by rw [spec_LikeParse.j3, ex, cf]) ?_
  refine ev_pos (by omega) (ev_pos (by omega) (ev_some ?_))
  have := lp_l1 x (x.toList.takeWhile Slk.dp).length he lv b o (Cut.cutAt 46 (x.toList.takeWhile Slk.dp)) (by omega) (fun q hq => ⟨by have := c2 q hq; omega, by
    rw [List.all_eq_true]
    intro c hc
    obtain ⟨h1, h2⟩ := cut_sub 46 _ q hq c hc
    have h3 := (List.all_eq_true.1 (List.all_takeWhile (p := Slk.dp) (l := x.toList))) c h1
    unfold Slk.dp at h3
    rcases Bool.or_eq_true _ _ ▸ h3 with h | h
    · exact h
    · exact absurd (by simpa using h) h2⟩) _ 0 [] (Nat.zero_add _) (Nat.le_refl _)
  rw [List.drop_zero, List.nil_append, pnN_eq] at this
  have e2 : x.extract (x.toList.takeWhile Slk.dp).length x.size = bs (x.toList.dropWhile Slk.dp) := bs_eq (by rw [ext_all, drop_tw])
  rw [e2] at this
  exact this
theorem lp_l0 (x : ByteArray) (hx : x.size ≤ 40000) (lv : Bool) (b o : ByteArray) (d : Nat) : ∀ i : Nat, i + d = x.size → (x.toList.take i).all Slk.dp = true → Ev (fun k => spec_LikeParse.l0 k x (i : Int) lv b o) (lv, pn (Slk.nonE (Cut.cutAt 46 (x.toList.takeWhile Slk.dp))), bs (x.toList.dropWhile Slk.dp), o) := by
  have j3 := lp_j3 x hx lv b o
  induction d with
  | zero =>
    intro i hi ha
    have e := tw_at x.toList i ha (by rw [len_toList]; omega) (fun h => by rw [len_toList] at h; omega)
    rw [e] at j3
    refine Ev.step (fun k => by rw [spec_LikeParse.l0]) ?_
    exact ev_neg (by omega) j3
  | succ d ih =>
    intro i hi ha
    have hlt : i < x.size := by omega
    have w := wr i (by omega)
    have hg : x.toList[i]'(by rw [len_toList]; exact hlt) = x[i]'hlt := by
      simp only [toList_eq']
      rfl
    have stop : Slk.dp (x[i]'hlt) = false → Ev (fun k => spec_LikeParse.j3 k x (i : Int) lv b o) (lv, pn (Slk.nonE (Cut.cutAt 46 (x.toList.takeWhile Slk.dp))), bs (x.toList.dropWhile Slk.dp), o) := fun h => by
      have e := tw_at x.toList i ha (by rw [len_toList]; omega) (fun h' => by rw [hg]; exact h)
      rw [e] at j3
      exact j3
    have next : Slk.dp (x[i]'hlt) = true → Ev (fun k => spec_LikeParse.l0 k x ((i + 1 : Nat) : Int) lv b o) (lv, pn (Slk.nonE (Cut.cutAt 46 (x.toList.takeWhile Slk.dp))), bs (x.toList.dropWhile Slk.dp), o) := fun h => by
      refine ih (i + 1) (by omega) ?_
      rw [List.take_succ_eq_append_getElem (by rw [len_toList]; exact hlt), List.all_append, ha, hg]
      simp [h]
    refine Ev.step (fun k => by rw [spec_LikeParse.l0, bt_nat x i hlt, isDigit_f, w]) ?_
    refine ev_pos (by omega) (ev_pos (by omega) (ev_some ?_))
    cases hd : Rpm.dig (x[i]'hlt) with
    | true => exact ev_pos rfl (next (by unfold Slk.dp; rw [hd]; rfl))
    | false =>
      refine ev_neg (by simp) ?_
      by_cases h46 : ((x[i]'hlt).toNat : Int) = 46
      · exact ev_pos h46 (next (by unfold Slk.dp; rw [UInt8.toNat_inj.1 (show (x[i]'hlt).toNat = (46 : UInt8).toNat from by show _ = 46; omega)]; rfl))
      · refine ev_neg h46 (stop ?_)
        unfold Slk.dp
        rw [hd, Bool.false_or]
        refine beq_eq_false_iff_ne.2 (fun e => h46 ?_)
        rw [e]
        rfl
theorem likeParse_ev (s : ByteArray) (hs : s.size ≤ 40000) : Ev (fun k => spec_LikeParse.f k s) (Slk.lead s.toList, pn (Slk.parse s.toList).1, bs (Slk.parse s.toList).2, s) := by
  have run : ∀ (x : ByteArray) (lv : Bool), x.size ≤ 40000 → Ev (fun k => spec_LikeParse.j1 k x lv ⟨#[]⟩ s) (lv, pn (Slk.slk [] [] x.toList).1, bs (Slk.slk [] [] x.toList).2, s) := fun x lv hx => by
    have := lp_l0 x hx lv ⟨#[]⟩ s x.size 0 (by omega) rfl
    rw [Slk.slk_runs x.toList [] [] rfl]
    refine Ev.step (fun k => by rw [spec_LikeParse.j1]) ?_
    exact this
  have go : ∀ lv : Bool, lv = Slk.lead s.toList → (lv = true → 0 < s.size) → Ev (fun k => spec_LikeParse.j0 k s lv false ⟨#[]⟩ s) (Slk.lead s.toList, pn (Slk.parse s.toList).1, bs (Slk.parse s.toList).2, s) := fun lv hl hp => by
    refine Ev.step (fun k => by rw [spec_LikeParse.j0]) ?_
    unfold Slk.parse Slk.body
    rw [← hl]
    cases lv with
    | true =>
      have h0 := hp rfl
      have e : s.extract 1 s.size = bs s.toList.tail := bs_eq (by rw [ext_all, List.drop_one])
      refine ev_pos rfl (ev_pos (by omega) ?_)
      rw [e]
      have := run (bs s.toList.tail) true (by rw [bs_size, List.length_tail, len_toList]; omega)
      rw [bs_toList] at this
      exact this
    | false =>
      refine ev_neg (by simp) ?_
      exact run s false hs
  unfold spec_LikeParse.f
  by_cases h0 : s.toList = []
  · refine ev_pos h0 (go false ?_ (fun h => absurd h (by decide)))
    rw [h0]
    rfl
  · have hz : 0 < s.size := by rw [← len_toList]; exact List.length_pos_iff.2 h0
    refine ev_neg h0 (ev_pos (by omega) (go _ ?_ (fun _ => hz)))
    have hb := bt_nat s 0 hz
    have hd := drop_at s 0 hz
    rw [List.drop_zero] at hd
    unfold Slk.lead
    rw [hd, show bt s 0 = ((s[0]'hz).toNat : Int) from hb]
    show (((s[0]'hz).toNat : Int) == 118) = (some (s[0]'hz) == some 118)
    by_cases h : s[0]'hz = 118
    · rw [h]
      rfl
    · rw [beq_eq_false_iff_ne.2 (fun e => h (Option.some.inj e))]
      exact beq_eq_false_iff_ne.2 (fun e => h (UInt8.toNat_inj.1 (show (s[0]'hz).toNat = (118 : UInt8).toNat from by show _ = 118; omega)))
end Go.Proofs.YtjcebbcceohmkaaDoor.QL
