/- What the reference answers of two lists of numbers. -/
import Derived.Test.YtmbgkdklgdkikaaDoorPmc
import Derived.Test.YtmbgkdklgdkikaaDoorPPint
import Derived.Test.YtmbgkdklgdkikaaDoorQPx
namespace Go.Proofs.YtmbgkdklgdkikaaDoor.QP
open Go.RowKit Go.Proofs.YtmbgkdklgdkikaaDoorW.PrintWords Go.Proofs.YtmbgkdklgdkikaaDoorW.PrintLast Go.Proofs.YtmbgkdklgdkikaaDoor.Pk Go.Proofs.YtmbgkdklgdkikaaDoor.Giv Go.Proofs.YtmbgkdklgdkikaaDoor.Ord
set_option linter.unusedVariables false

theorem told_zero : told 0 = (false, (⟨#[]⟩ : ByteArray)) := by
  unfold told
  rw [show (0 : Int).natAbs = 0 from rfl, Lb.mag_zero]
  rfl
theorem tidy_ev (z : Int) : Ev (fun k => spec_numTidy.f k (told z).1 (told z).2) (told z) := by
  unfold spec_numTidy.f
  refine Ev.step (fun k => by rw [spec_numTidy.l0]) ?_
  unfold told
  dsimp only
  cases e : Lb.mag z.natAbs with
  | nil =>
    have z0 := Lb.mag_nil e
    have hz : ¬ z < 0 := by omega
    rw [decide_eq_false hz]
    refine ev_neg (by rw [bs_size]; simp) (ev_neg (by simp) ?_)
    exact Ev.now _
  | cons c r =>
    have hc := Lb.mag_head _ c r e
    refine ev_pos (by rw [bs_size, List.length_cons]; omega) (ev_pos (by rw [bs_size, List.length_cons]; omega) ?_)
    rw [bs_bt0]
    refine ev_neg (fun h => hc (UInt8.toNat_inj.1 (by rw [show (0 : UInt8).toNat = 0 from rfl]; omega))) ?_
    by_cases hz : z < 0
    · rw [decide_eq_true hz, bs_toList, show ((c :: r) != ([] : List UInt8)) = true from rfl]
      refine ev_pos rfl ?_
      exact Ev.now _
    · rw [decide_eq_false hz]
      refine ev_neg (by simp) ?_
      exact Ev.now _
theorem orderInts_f (a b : Int) : spec_orderInts.f a b = some (cI a b) := by
  unfold spec_orderInts.f cI
  by_cases h : a < b
  · rw [if_pos h, if_pos h]
  · rw [if_neg h, if_neg h]
    by_cases h2 : b < a
    · rw [if_pos h2, if_pos h2]
    · rw [if_neg h2, if_neg h2]
theorem intOrder_j2 (p q : Bool) (a b : Nat) : Ev (fun k => spec_intOrder.j2 k p (bs (Lb.mag a)) q (bs (Lb.mag b))) (cI a b) := by
  have m := Lb.magC_eq a b
  unfold Lb.magC at m
  refine Ev.step (fun k => by rw [spec_intOrder.j2]) ?_
  rw [bs_size, bs_size]
  by_cases h : (Lb.mag a).length = (Lb.mag b).length
  · rw [if_pos h] at m
    refine ev_pos (by omega) ?_
    have : Giv.spec_order.f (bs (Lb.mag a)) (bs (Lb.mag b)) = some (cI a b) := by
      unfold Giv.spec_order.f
      rw [bs_toList, bs_toList, m]
    rw [this]
    exact ev_some (Ev.now _)
  · rw [if_neg h] at m
    refine ev_neg (by omega) ?_
    rw [orderInts_f, m]
    exact ev_some (Ev.now _)
theorem intOrder_ev (z y : Int) : Ev (fun k => spec_intOrder.f k (told z).1 (told z).2 (told y).1 (told y).2) (cI z y) := by
  unfold spec_intOrder.f
  refine (tidy_ev z).bind ((tidy_ev y).bind ?_)
  by_cases hz : z < 0
  · have e1 : (told z).1 = true := decide_eq_true hz
    by_cases hy : y < 0
    · have e2 : (told y).1 = true := decide_eq_true hy
      rw [e1, e2]
      refine ev_pos rfl ?_
      refine Ev.step (fun k => by rw [spec_intOrder.j0]) ?_
      refine ev_neg (by simp) (ev_pos rfl ?_)
      refine Ev.step (fun k => by rw [spec_intOrder.j1]) ?_
      refine ev_neg (by simp) (ev_pos rfl ?_)
      have := intOrder_j2 true true y.natAbs z.natAbs
      rw [show cI ((y.natAbs : Nat) : Int) ((z.natAbs : Nat) : Int) = cI z y by unfold cI; repeat' split; all_goals omega] at this
      exact this
    · have e2 : (told y).1 = false := decide_eq_false hy
      rw [e1, e2]
      refine ev_pos rfl ?_
      refine Ev.step (fun k => by rw [spec_intOrder.j0]) ?_
      rw [show cI z y = -1 by unfold cI; rw [if_pos (by omega)]]
      exact ev_pos rfl (Ev.now _)
  · have e1 : (told z).1 = false := decide_eq_false hz
    by_cases hy : y < 0
    · have e2 : (told y).1 = true := decide_eq_true hy
      rw [e1, e2]
      refine ev_neg (by simp) ?_
      refine Ev.step (fun k => by rw [spec_intOrder.j0]) ?_
      refine ev_neg (by simp) (ev_neg (by simp) ?_)
      refine Ev.step (fun k => by rw [spec_intOrder.j1]) ?_
      rw [show cI z y = 1 by unfold cI; rw [if_neg (by omega), if_pos (by omega)]]
      exact ev_pos rfl (Ev.now _)
    · have e2 : (told y).1 = false := decide_eq_false hy
      rw [e1, e2]
      refine ev_neg (by simp) ?_
      refine Ev.step (fun k => by rw [spec_intOrder.j0]) ?_
      refine ev_neg (by simp) (ev_neg (by simp) ?_)
      refine Ev.step (fun k => by rw [spec_intOrder.j1]) ?_
      refine ev_neg (by simp) (ev_neg (by simp) ?_)
      have := intOrder_j2 false false z.natAbs y.natAbs
      rw [show cI ((z.natAbs : Nat) : Int) ((y.natAbs : Nat) : Int) = cI z y by unfold cI; repeat' split; all_goals omega] at this
      exact this
/-- Numbers as the program tells them. -/
def nl (zs : List Int) : List S28 := zs.map (fun z => ⟨(told z).1, (told z).2⟩)
theorem nl_len (zs : List Int) : (nl zs).length = zs.length := by simp [nl]
theorem nl_snoc (zs : List Int) (z : Int) : nl (zs ++ [z]) = nl zs ++ [⟨(told z).1, (told z).2⟩] := by simp [nl]
theorem nl_rd (zs : List Int) (i : Nat) (h : i < zs.length) : rd_T28 (nl zs) (i : Int) = ⟨(told (zs.getD i 0)).1, (told (zs.getD i 0)).2⟩ := by
  unfold rd_T28 nl
  rw [Int.toNat_natCast, List.getD_eq_getElem?_getD, List.getD_eq_getElem?_getD, List.getElem?_map, List.getElem?_eq_getElem h]
  rfl
theorem nl_none (zs : List Int) (i : Nat) (h : ¬ i < zs.length) : zs.getD i 0 = 0 := by
  rw [List.getD_eq_getElem?_getD, List.getElem?_eq_none (by omega)]
  rfl
theorem pad_num (zs ys : List Int) (n i : Nat) (h : i < n) : padN cI 0 (n - i) (zs.drop i) (ys.drop i) = if cI (zs.getD i 0) (ys.getD i 0) = 0 then padN cI 0 (n - (i + 1)) (zs.drop (i + 1)) (ys.drop (i + 1)) else cI (zs.getD i 0) (ys.getD i 0) := by
  have g : ∀ l : List Int, (l.drop i).headD 0 = l.getD i 0 := by
    intro l
    rw [List.headD_eq_head?_getD, List.head?_drop, List.getD_eq_getElem?_getD]
  rw [show n - i = (n - (i + 1)) + 1 by omega]
  simp only [padN]
  rw [g, g, List.tail_drop, List.tail_drop]
theorem cn_loop (zs ys : List Int) (hz : zs.length < 4611686018427387904) (hy : ys.length < 4611686018427387904) (n : Nat) (hn : n = max zs.length ys.length) (d : Nat) : ∀ i : Nat, i + d = n → Ev (fun k => spec_CompareNumbers.l0 k (nl zs) (nl ys) (i : Int)) (padN cI 0 (n - i) (zs.drop i) (ys.drop i)) := by
  induction d with
  | zero =>
    intro i hi
    refine Ev.step (fun k => by rw [spec_CompareNumbers.l0]) ?_
    rw [nl_len, nl_len, show n - i = 0 by omega]
    refine ev_neg (by omega) ?_
    rw [decide_eq_false (by omega)]
    refine Ev.step (fun k => by rw [spec_CompareNumbers.j1]) ?_
    exact ev_neg (by simp) (Ev.now _)
  | succ d ih =>
    intro i hi
    have w := wr i (by omega)
    have nx := ih (i + 1) (by omega)
    rw [← w] at nx
    rw [pad_num zs ys n i (by omega)]
    obtain ⟨R, hR⟩ : ∃ R, R = (if cI (zs.getD i 0) (ys.getD i 0) = 0 then padN cI 0 (n - (i + 1)) (zs.drop (i + 1)) (ys.drop (i + 1)) else cI (zs.getD i 0) (ys.getD i 0)) := ⟨_, rfl⟩
    rw [← hR]
    have j3 : Ev (fun k => (spec_intOrder.f k (told (zs.getD i 0)).1 (told (zs.getD i 0)).2 (told (ys.getD i 0)).1 (told (ys.getD i 0)).2).bind fun t => if t = 0 then spec_CompareNumbers.l0 k (nl zs) (nl ys) (wrap64 ((i : Int) + 1)) else some t) R := by
      refine (intOrder_ev _ _).bind ?_
      by_cases h : cI (zs.getD i 0) (ys.getD i 0) = 0
      · rw [if_pos h] at hR
        rw [hR]
        exact ev_pos h nx
      · rw [if_neg h] at hR
        rw [hR]
        exact ev_neg h (Ev.now _)
    clear hR
    have j2 : Ev (fun k => spec_CompareNumbers.j2 k (nl zs) (nl ys) (i : Int) (told (zs.getD i 0)).1 (told (zs.getD i 0)).2 false ⟨#[]⟩) R := by
      refine Ev.step (fun k => by rw [spec_CompareNumbers.j2]) ?_
      rw [nl_len]
      by_cases h : i < ys.length
      · refine ev_pos (by omega) (ev_pos (by omega) ?_)
        rw [nl_rd ys i h]
        exact j3
      · refine ev_neg (by omega) ?_
        have g := nl_none ys i h
        generalize ys.getD i 0 = y at *
        subst g
        rw [told_zero] at j3
        exact j3
    have j1 : Ev (fun k => spec_CompareNumbers.j1 k (nl zs) (nl ys) (i : Int) true) R := by
      refine Ev.step (fun k => by rw [spec_CompareNumbers.j1]) ?_
      refine ev_pos rfl ?_
      rw [nl_len]
      by_cases h : i < zs.length
      · refine ev_pos (by omega) (ev_pos (by omega) ?_)
        rw [nl_rd zs i h]
        exact j2
      · refine ev_neg (by omega) ?_
        have g := nl_none zs i h
        generalize zs.getD i 0 = y at *
        subst g
        rw [told_zero] at j2
        exact j2
    refine Ev.step (fun k => by rw [spec_CompareNumbers.l0]) ?_
    rw [nl_len, nl_len]
    by_cases h : i < zs.length
    · exact ev_pos (by omega) j1
    · refine ev_neg (by omega) ?_
      rw [decide_eq_true (by omega)]
      exact j1
theorem compareNumbers_ev (zs ys : List Int) (hz : zs.length < 4611686018427387904) (hy : ys.length < 4611686018427387904) : Ev (fun k => spec_CompareNumbers.f k (nl zs) (nl ys)) (padL cI 0 zs ys) :=
  cn_loop zs ys hz hy _ rfl _ 0 (Nat.zero_add _)
end Go.Proofs.YtmbgkdklgdkikaaDoor.QP
