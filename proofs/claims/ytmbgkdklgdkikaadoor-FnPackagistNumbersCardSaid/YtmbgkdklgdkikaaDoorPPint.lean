/- What the reference answers of numbers in decimal: their bytes, and which texts are numbers. -/
import Derived.Test.YtmbgkdklgdkikaaDoorZD
import Derived.Test.YtmbgkdklgdkikaaDoorLb
import Derived.Test.YtmbgkdklgdkikaaDoorPPdg
import Derived.Test.YtmbgkdklgdkikaaDoorQPx
namespace Go.Proofs.YtmbgkdklgdkikaaDoor.QP
open Go.RowKit Go.Proofs.YtmbgkdklgdkikaaDoorW.PrintWords Go.Proofs.YtmbgkdklgdkikaaDoorW.PrintLast Go.Proofs.YtmbgkdklgdkikaaDoor.Pk Go.Proofs.YtmbgkdklgdkikaaDoor.Giv Go.Proofs.YtmbgkdklgdkikaaDoor.Ord
set_option linter.unusedVariables false

theorem pi_tail (s : ByteArray) (h : 0 < s.size) : s.toList = s[0]'h :: (s.extract 1 s.size).toList := by
  rw [ext_all]
  have := drop_at s 0 h
  simpa using this
def wi (l : List Nat) : List Int := l.map Int.ofNat
theorem wi_len (l : List Nat) : (wi l).length = l.length := by simp [wi]
theorem wi_rd (p : List Nat) (x : Nat) (r : List Nat) : rd (wi (p ++ x :: r)) (p.length : Int) = (x : Int) := by
  rw [rd_nat _ _ (by rw [wi_len]; simp)]
  simp [wi]
theorem wi_set (p : List Nat) (x : Nat) (r : List Nat) (y : Nat) : (wi (p ++ x :: r)).set p.length (y : Int) = wi (p ++ y :: r) := by
  unfold wi
  rw [List.map_append, List.map_cons, List.set_append_right _ _ (by simp), List.length_map, Nat.sub_self, List.map_append, List.map_cons]
  rfl
theorem io_step (c x : Nat) (hc : c ≤ 9) (hx : x < 256) : (Int.tmod (wrap64 ((c : Int) + (wrap64 (10 * (wrap64 (x : Int)))))) 256) % 256 = (((c + 10 * x) % 256 : Nat) : Int) ∧ wrap64 (Int.tdiv (wrap64 ((c : Int) + (wrap64 (10 * (wrap64 (x : Int)))))) 256) = (((c + 10 * x) / 256 : Nat) : Int) := by
  have w1 : wrap64 (x : Int) = x := by unfold wrap64; omega
  have w2 : wrap64 (10 * (x : Int)) = 10 * x := by unfold wrap64; omega
  have w3 : wrap64 ((c : Int) + 10 * x) = ((c + 10 * x : Nat) : Int) := by unfold wrap64; omega
  rw [w1, w2, w3]
  have a : Int.tmod ((c + 10 * x : Nat) : Int) 256 = (((c + 10 * x) % 256 : Nat) : Int) := Int.ofNat_tmod _ _ |>.symm
  have b : Int.tdiv ((c + 10 * x : Nat) : Int) 256 = (((c + 10 * x) / 256 : Nat) : Int) := Int.ofNat_tdiv _ _ |>.symm
  rw [a, b]
  refine ⟨by omega, by unfold wrap64; omega⟩
theorem io_l1 (s : ByteArray) (i : Nat) (V : Bool × ByteArray) (r : List Nat) : ∀ (p : List Nat) (c : Nat), c ≤ 9 → (∀ x ∈ r, x < 256) → p.length + r.length < 100000 → Ev (fun k => spec_intOf.l0 k s (wi (p ++ Lb.ma c r)) (wrap64 ((i : Int) + 1))) V → Ev (fun k => spec_intOf.l1 k s (wi (p ++ r)) (i : Int) (c : Int) (p.length : Int)) V := by
  induction r with
  | nil =>
    intro p c hc _ hl nx
    rw [List.append_nil]
    refine Ev.step (fun k => by rw [spec_intOf.l1]) ?_
    refine ev_neg (by rw [wi_len]; omega) ?_
    rw [Lb.ma] at nx
    by_cases hz : c = 0
    · rw [if_pos hz, List.append_nil] at nx
      exact ev_neg (by omega) nx
    · rw [if_neg hz] at nx
      refine ev_pos (by omega) (ev_pos (by rw [wi_len]; omega) ?_)
      have e : wi p ++ [(c : Int) % 256] = wi (p ++ [c]) := by
        unfold wi
        rw [List.map_append, show (c : Int) % 256 = (c : Int) by omega]
        rfl
      rw [e]
      exact nx
  | cons x r ih =>
    intro p c hc hs hl nx
    have hx := hs x List.mem_cons_self
    have w := wr p.length (by simp at hl; omega)
    obtain ⟨a, b⟩ := io_step c x hc hx
    have z := ih (p ++ [(c + 10 * x) % 256]) ((c + 10 * x) / 256) (by omega) (fun y hy => hs y (List.mem_cons_of_mem _ hy)) (by simp at hl ⊢; omega) (by
      rw [Lb.ma] at nx
      rw [List.append_assoc]
      exact nx)
    rw [List.append_assoc, List.length_append, List.length_singleton] at z
    refine Ev.step (fun k => by rw [spec_intOf.l1, wi_rd, a, b, w, Int.toNat_natCast, wi_set]) ?_
    refine ev_pos (by rw [wi_len]; simp; omega) (ev_pos (by omega) ?_)
    exact z
theorem io_l2 (l : List Nat) (hl : l.length < 100000) (d : Nat) : ∀ j : Nat, j + d = l.length → Ev (fun k => spec_intOf.l2 k (wi l) (wi (List.replicate (l.length - j) 0 ++ (l.take j).reverse)) (j : Int)) (false, strOfNums (wi l.reverse)) := by
  induction d with
  | zero =>
    intro j hj
    refine Ev.step (fun k => by rw [spec_intOf.l2]) ?_
    refine ev_neg (by rw [wi_len]; omega) ?_
    rw [show l.length - j = 0 by omega, List.replicate_zero, List.nil_append, List.take_of_length_le (by omega)]
    exact Ev.now _
  | succ d ih =>
    intro j hj
    have hlt : j < l.length := by omega
    have w := wr j (by omega)
    have w1 : wrap64 ((wrap64 (((wi l).length : Int) - 1)) - (j : Int)) = ((l.length - 1 - j : Nat) : Int) := by
      rw [wi_len]
      unfold wrap64
      omega
    have r : rd (wi l) (j : Int) = ((l[j]'hlt : Nat) : Int) := by
      rw [rd_nat _ _ (by rw [wi_len]; exact hlt)]
      simp [wi]
    have e : (wi (List.replicate (l.length - j) 0 ++ (l.take j).reverse)).set (l.length - 1 - j) ((l[j]'hlt : Nat) : Int) = wi (List.replicate (l.length - (j + 1)) 0 ++ (l.take (j + 1)).reverse) := by
      have q := wi_set (List.replicate (l.length - (j + 1)) 0) 0 (l.take j).reverse (l[j]'hlt)
      rw [List.length_replicate] at q
      rw [show l.length - j = (l.length - (j + 1)) + 1 by omega, List.replicate_succ', List.append_assoc, List.take_succ_eq_append_getElem hlt, List.reverse_append, show l.length - 1 - j = l.length - (j + 1) by omega]
      exact q
    have z := ih (j + 1) (by omega)
    refine Ev.step (fun k => by rw [spec_intOf.l2, w1, r, w, Int.toNat_natCast, e]) ?_
    refine ev_pos (by rw [wi_len]; omega) (ev_pos (by omega) (ev_pos (by omega) (ev_pos ?_ z)))
    rw [wi_len, List.length_append, List.length_replicate, List.length_reverse, List.length_take]
    omega
theorem strOf_mag (n : Nat) : strOfNums (wi (Lb.lb n).reverse) = bs (Lb.mag n) := by
  unfold strOfNums bs Lb.mag wi
  rw [List.map_map]
  rfl
theorem io_l0 (s : ByteArray) (hs : s.size ≤ 40000) (ha : s.toList.all Rpm.dig = true) (d : Nat) : ∀ i : Nat, i + d = s.size → Ev (fun k => spec_intOf.l0 k s (wi (Lb.lb (Num.dec (s.toList.take i)))) (i : Int)) (false, bs (Lb.mag (Num.dec s.toList))) := by
  have len : ∀ i, (Lb.lb (Num.dec (s.toList.take i))).length ≤ 40000 := by
    intro i
    have h := Num.dec_lt (s.toList.take i) (by
      rw [List.all_eq_true] at ha ⊢
      intro x hx
      exact ha x (List.mem_of_mem_take hx))
    have := Lb.lb_len _ _ h
    rw [List.length_take, len_toList] at this
    omega
  induction d with
  | zero =>
    intro i hi
    have l := len i
    rw [List.take_of_length_le (by rw [len_toList]; omega)] at l ⊢
    refine Ev.step (fun k => by rw [spec_intOf.l0]) ?_
    refine ev_neg (by omega) (ev_pos (by omega) (ev_pos (by rw [wi_len]; omega) ?_))
    have := io_l2 (Lb.lb (Num.dec s.toList)) (by omega) _ 0 (Nat.zero_add _)
    rw [strOf_mag] at this
    have e : List.replicate (((wi (Lb.lb (Num.dec s.toList))).length : Int)).toNat (0 : Int) = wi (List.replicate ((Lb.lb (Num.dec s.toList)).length - 0) 0 ++ ((Lb.lb (Num.dec s.toList)).take 0).reverse) := by
      rw [Int.toNat_natCast, wi_len]
      simp [wi]
    rw [e]
    exact this
  | succ d ih =>
    intro i hi
    have hlt : i < s.size := by omega
    have l := len i
    have hd : Rpm.dig (s[i]'hlt) = true := by
      rw [List.all_eq_true] at ha
      exact ha _ (by rw [← getElem_toList s i hlt]; exact List.getElem_mem _)
    have hd' : 48 ≤ (s[i]'hlt).toNat ∧ (s[i]'hlt).toNat ≤ 57 := by simpa [Rpm.dig] using hd
    have z := ih (i + 1) (by omega)
    rw [take_next' s i hlt, Num.dec_snoc, Nat.mul_comm, ← Lb.ma_lb _ _ (by omega)] at z
    have w := wr i (by omega)
    rw [← w] at z
    have e : ((((s[i]'hlt).toNat : Int) - 48) % 256) = (((s[i]'hlt).toNat - 48 : Nat) : Int) := by omega
    refine Ev.step (fun k => by rw [spec_intOf.l0, bt_nat s i hlt, e]) ?_
    refine ev_pos (by omega) (ev_pos (by omega) ?_)
    exact io_l1 s i _ _ [] _ (by omega) (Lb.lb_small _) (by simp; omega) z
theorem intOf_ev (s : ByteArray) (hs : s.size ≤ 40000) (ha : s.toList.all Rpm.dig = true) : Ev (fun k => spec_intOf.f k s) (false, bs (Lb.mag (Num.dec s.toList))) := by
  have := io_l0 s hs ha _ 0 (Nat.zero_add _)
  rw [List.take_zero, Num.dec_nil, Lb.lb_zero] at this
  exact this
/-- A number as the program tells it. -/
def told (z : Int) : Bool × ByteArray := (decide (z < 0), bs (Lb.mag z.natAbs))
theorem sn_j1 (s : ByteArray) (hs : s.size ≤ 40000) (neg : Bool) : Ev (fun k => spec_Number.j1 k s neg) (if Num.digits s.toList then ((told (if neg then -(Num.dec s.toList : Int) else (Num.dec s.toList : Int))).1, (told (if neg then -(Num.dec s.toList : Int) else (Num.dec s.toList : Int))).2, true) else (false, ⟨#[]⟩, false)) := by
  refine Ev.step (fun k => by rw [spec_Number.j1]) ?_
  refine (allDigits_ev s (by omega)).bind ?_
  cases hd : Num.digits s.toList with
  | false => exact ev_neg (by simp) (Ev.now _)
  | true =>
    have ha : s.toList.all Rpm.dig = true := by unfold Num.digits at hd; rw [Bool.and_eq_true] at hd; exact hd.2
    refine ev_pos rfl ((intOf_ev s hs ha).bind ?_)
    simp only [if_true, told]
    cases neg with
    | false =>
      refine ev_neg (by simp) ?_
      simp only [Bool.false_eq_true, if_false, Int.natAbs_natCast]
      rw [decide_eq_false (by omega)]
      exact Ev.now _
    | true =>
      refine ev_pos rfl ?_
      simp only [if_true, Int.natAbs_neg, Int.natAbs_natCast]
      have e : ((bs (Lb.mag (Num.dec s.toList))).toList != ([] : List UInt8)) = decide (-(Num.dec s.toList : Int) < 0) := by
        rw [bs_toList, Bool.eq_iff_iff]
        simp only [bne_iff_ne, ne_eq, decide_eq_true_eq]
        constructor
        · intro h
          have : Num.dec s.toList ≠ 0 := fun e => h (by rw [e, Lb.mag_zero])
          omega
        · intro h e
          have := Lb.mag_nil e
          omega
      rw [e]
      exact Ev.now _
/-- The reference reads a number as the plain function does. -/
theorem specNumber_ev (s : ByteArray) (hs : s.size ≤ 40000) : Ev (fun k => spec_Number.f k s) (match Num.parse s.toList with | some z => ((told z).1, (told z).2, true) | none => (false, ⟨#[]⟩, false)) := by
  have fin : ∀ (t : ByteArray) (neg : Bool), t.size ≤ 40000 → Num.cutSign s.toList = (neg, t.toList) → Ev (fun k => spec_Number.j1 k t neg) (match Num.parse s.toList with | some z => ((told z).1, (told z).2, true) | none => (false, ⟨#[]⟩, false)) := by
    intro t neg ht hc
    have := sn_j1 t ht neg
    unfold Num.parse
    rw [hc]
    cases hd : Num.digits t.toList <;> (rw [hd] at this; exact this)
  unfold spec_Number.f
  by_cases h : (s.size : Int) > 0
  · have h0 : 0 < s.size := by omega
    have et := pi_tail s h0
    have b0 : bt s 0 = ((s[0]'h0).toNat : Int) := bt_nat s 0 h0
    have hx : (s.extract 1 s.size).size ≤ 40000 := by rw [ByteArray.size_extract]; omega
    refine ev_pos h (ev_pos (by omega) ?_)
    rw [b0]
    by_cases c43 : ((s[0]'h0).toNat : Int) = 43
    · refine ev_pos c43 ?_
      refine Ev.step (fun k => by rw [spec_Number.j0]) ?_
      rw [b0]
      refine ev_pos rfl (ev_pos (by omega) (ev_pos (by omega) ?_))
      have e : (((s[0]'h0).toNat : Int) == 45) = false := beq_eq_false_iff_ne.2 (by omega)
      rw [e]
      refine fin _ false hx ?_
      rw [et]
      unfold Num.cutSign
      simp only
      rw [if_neg (by omega), if_pos (by omega)]
    · refine ev_neg c43 ?_
      by_cases c45 : ((s[0]'h0).toNat : Int) = 45
      · have e : (((s[0]'h0).toNat : Int) == 45) = true := beq_iff_eq.2 c45
        rw [e]
        refine Ev.step (fun k => by rw [spec_Number.j0]) ?_
        rw [b0, e]
        refine ev_pos rfl (ev_pos (by omega) (ev_pos (by omega) ?_))
        refine fin _ true hx ?_
        rw [et]
        unfold Num.cutSign
        simp only
        rw [if_pos (by omega)]
      · have e : (((s[0]'h0).toNat : Int) == 45) = false := beq_eq_false_iff_ne.2 c45
        rw [e]
        refine Ev.step (fun k => by rw [spec_Number.j0]) ?_
        refine ev_neg (by simp) ?_
        refine fin s false hs ?_
        conv => lhs; rw [et]
        unfold Num.cutSign
        simp only
        rw [if_neg (by omega), if_neg (by omega), ← et]
  · refine ev_neg h ?_
    refine Ev.step (fun k => by rw [spec_Number.j0]) ?_
    refine ev_neg (by simp) ?_
    refine fin s false hs ?_
    have e : s.toList = [] := List.length_eq_zero_iff.1 (by rw [len_toList]; omega)
    rw [e]
    rfl
end Go.Proofs.YtmbgkdklgdkikaaDoor.QP
