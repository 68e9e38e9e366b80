/- The statement FnNumbersOrder: lists of numbers are in one order, for all lists of plain numbers: the law of what the printed walk computes. -/
import Derived.Test.YtcaeghgbeldlaaaAPchain
import Derived.Test.YtcaeghgbeldlaaaAGivNo
import Derived.Test.YtcaeghgbeldlaaaQAx
namespace Go.Proofs.Ytcaeghgbeldlaaa.Pure
open Go.RowKit Go.Proofs.Ytcaeghgbeldlaaa.QA Go.Proofs.YtcaeghgbeldlaaaW.PrintWords Go.Proofs.YtcaeghgbeldlaaaW.PrintLast Go.Proofs.Ytcaeghgbeldlaaa.Pk Go.Proofs.Ytcaeghgbeldlaaa.Giv Go.Proofs.Ytcaeghgbeldlaaa.Ord
set_option linter.unusedVariables false
set_option linter.unusedSimpArgs false
theorem tidy_tm (ng : Bool) : ∀ (n : Nat) (s : ByteArray), s.size ≤ n → Tm (fun k => spec_numTidy.l0 k ng s)
  | 0, s, h => by
    refine Tm.step (fun k => by rw [spec_numTidy.l0]) ?_
    exact Tm.ite (fun h' => absurd h' (by omega)) (fun _ => Tm.ite (fun _ => Tm.now _) (fun _ => Tm.now _))
  | n + 1, s, h => by
    refine Tm.step (fun k => by rw [spec_numTidy.l0]) ?_
    refine Tm.ite (fun h1 => Tm.ite (fun _ => Tm.ite (fun _ => Tm.ite (fun _ => ?_) (fun h' => absurd (by omega) h')) (fun _ => Tm.ite (fun _ => Tm.now _) (fun _ => Tm.now _))) (fun h' => absurd (by omega) h')) (fun _ => Tm.ite (fun _ => Tm.now _) (fun _ => Tm.now _))
    exact tidy_tm ng n _ (by rw [ByteArray.size_extract]; omega)
theorem intOK_tm (ng : Bool) (s : ByteArray) : Tm (fun k => spec_IntOK.f k ng s) := by
  unfold spec_IntOK.f spec_numTidy.f
  exact (tidy_tm ng s.size s (Nat.le_refl _)).bind (fun _ => Tm.now _)
theorem rdT_nat (l : List S29) (i : Nat) (h : i < l.length) : rd_T29 l (i : Int) = l[i]'h := by
  unfold rd_T29
  rw [Int.toNat_natCast, List.getD_eq_getElem?_getD, List.getElem?_eq_getElem h]
  rfl
theorem numbers_loop (l : List S29) (hl : l.length < 4611686018427387904) (d : Nat) : ∀ i : Nat, i + d = l.length → ∃ b, Ev (fun k => laws_numbers.l0 k l l (l.length : Int) (i : Int)) b ∧ (b = true → (∀ j, i ≤ j → ∀ h : j < l.length, (l[j]'h).f1.size ≤ 1500) ∧ l.length ≤ 150) := by
  induction d with
  | zero =>
    intro i hi
    refine ⟨decide ((l.length : Int) ≤ 150), ?_, fun h => ⟨fun j h1 h2 => absurd h2 (by omega), by have := of_decide_eq_true h; omega⟩⟩
    refine Ev.step (fun k => by rw [laws_numbers.l0]) ?_
    exact ev_neg (by omega) (Ev.now _)
  | succ d ih =>
    intro i hi
    have hlt : i < l.length := by omega
    have w := wr i (by omega)
    have r := rdT_nat l i hlt
    obtain ⟨q, hq, hk⟩ := ih (i + 1) (by omega)
    obtain ⟨t, ht⟩ := intOK_tm (l[i]'hlt).f0 (l[i]'hlt).f1
    cases t with
    | false =>
      refine ⟨false, ?_, fun h => by cases h⟩
      refine Ev.step (fun k => by rw [laws_numbers.l0, r, w]) ?_
      exact ev_pos (by omega) (ev_pos (by omega) (ev_pos (by omega) (Ev.bind ht (ev_neg (by simp) (Ev.now _)))))
    | true =>
      by_cases hs : ((l[i]'hlt).f1.size : Int) > 1500
      · refine ⟨false, ?_, fun h => by cases h⟩
        refine Ev.step (fun k => by rw [laws_numbers.l0, r, w]) ?_
        exact ev_pos (by omega) (ev_pos (by omega) (ev_pos (by omega) (Ev.bind ht (ev_pos rfl (ev_pos hs (Ev.now _))))))
      · refine ⟨q, ?_, fun h => ⟨fun j h1 h2 => ?_, (hk h).2⟩⟩
        · refine Ev.step (fun k => by rw [laws_numbers.l0, r, w]) ?_
          exact ev_pos (by omega) (ev_pos (by omega) (ev_pos (by omega) (Ev.bind ht (ev_pos rfl (ev_neg hs hq)))))
        · by_cases e : j = i
          · subst e
            omega
          · exact (hk h).1 j (by omega) h2
theorem numbers_ev (l : List S29) (hl : l.length < 4611686018427387904) : ∃ b, Ev (fun k => laws_numbers.f k l) b ∧ (b = true → small l = true) := by
  obtain ⟨b, hb, hk⟩ := numbers_loop l hl l.length 0 (Nat.zero_add _)
  refine ⟨b, hb, fun h => ?_⟩
  obtain ⟨h1, h2⟩ := hk h
  unfold small
  rw [Bool.and_eq_true, List.all_eq_true]
  refine ⟨decide_eq_true (by omega), fun x hx => decide_eq_true ?_⟩
  obtain ⟨j, hj, rfl⟩ := List.mem_iff_getElem.1 hx
  have := h1 j (Nat.zero_le _) hj
  omega
theorem fits_loop (l : List S29) (hl : l.length < 4611686018427387904) (d : Nat) : ∀ i : Nat, i + d = l.length → Tm (fun k => laws_zzFits2.l0 k l (l.length : Int) (i : Int)) := by
  induction d with
  | zero =>
    intro i hi
    refine Tm.step (fun k => by rw [laws_zzFits2.l0]) ?_
    exact Tm.ite (fun h => absurd h (by omega)) (fun _ => Tm.now _)
  | succ d ih =>
    intro i hi
    have w := wr i (by omega)
    have f3 : ∀ (a : Bool) (b : ByteArray), Tm (fun _ : Nat => laws_zzFits3.f a b) := fun a b => by
      unfold laws_zzFits3.f
      exact Tm.ite (fun _ => Tm.now _) (fun _ => Tm.now _)
    refine Tm.step (fun k => by rw [laws_zzFits2.l0, w]) ?_
    refine Tm.ite (fun _ => Tm.ite (fun _ => Tm.ite (fun _ => Tm.bind (f3 _ _) (fun _ => Tm.ite (fun _ => ih (i + 1) (by omega)) (fun _ => Tm.now _))) (fun h => absurd (by omega) h)) (fun h => absurd (by omega) h)) (fun h => absurd (by omega) h)
theorem fits_ev (l : List S29) : ∃ b, Ev (fun k => laws_zzFits2.f k l) b ∧ (b = true → l.length ≤ 2147483647) := by
  unfold laws_zzFits2.f
  by_cases h : (l.length : Int) > 2147483647
  · exact ⟨false, ev_pos h (Ev.now _), fun e => by cases e⟩
  · obtain ⟨b, e⟩ := fits_loop l (by omega) l.length 0 (by omega)
    exact ⟨b, ev_neg h e, fun _ => by omega⟩
theorem awake : laws_numbersAwake.f = some true := by
  have e1 : zOf false (⟨#[1]⟩ : ByteArray) = 1 := by
    unfold zOf
    rw [Lib.toList_data]
    rfl
  have e2 : zOf false (⟨#[2]⟩ : ByteArray) = 2 := by
    unfold zOf
    rw [Lib.toList_data]
    rfl
  have c : Giv.impl_CompareNumbers.f [(⟨false, ⟨#[1]⟩⟩ : S29)] [(⟨false, ⟨#[2]⟩⟩ : S29)] = some (-1) := by
    unfold Giv.impl_CompareNumbers.f
    rw [if_pos ⟨by decide, by decide⟩]
    unfold zn
    simp only [List.map_cons, List.map_nil, e1, e2]
    rfl
  unfold laws_numbersAwake.f laws_one.f laws_two.f
  simp only [Option.bind_some, c]
  rfl
theorem FnNumbersOrder : ∀ (l0 l1 l2 : List S29), ∃ k, laws_FnNumbersOrder.f k l0 l1 l2 = some true := by
  intro a b c
  suffices h : Ev (fun k => laws_FnNumbersOrder.f k a b c) true from h.rounds
  have out : Ev (fun k => laws_FnNumbersOrder.j0 k a b c true) true := by
    refine Ev.step (fun k => by rw [laws_FnNumbersOrder.j0]) ?_
    exact ev_pos rfl (Ev.now _)
  have out1 : Ev (fun k => laws_FnNumbersOrder.j1 k a b c true) true := by
    refine Ev.step (fun k => by rw [laws_FnNumbersOrder.j1]) ?_
    exact ev_pos rfl (Ev.now _)
  unfold laws_FnNumbersOrder.f
  obtain ⟨fa, ea, ha⟩ := fits_ev a
  obtain ⟨fb, eb, hb⟩ := fits_ev b
  obtain ⟨fc, ec, hc⟩ := fits_ev c
  refine ea.bind ?_
  cases fa with
  | false => exact ev_neg (by simp) out
  | true =>
  refine ev_pos rfl (eb.bind ?_)
  cases fb with
  | false => exact ev_neg (by simp) out
  | true =>
  refine ev_pos rfl (ec.bind ?_)
  cases fc with
  | false => exact out
  | true =>
  have la := ha rfl
  have lb := hb rfl
  have lc := hc rfl
  obtain ⟨na, ea, sa⟩ := numbers_ev a (by omega)
  obtain ⟨nb, eb, sb⟩ := numbers_ev b (by omega)
  obtain ⟨nc, ec, sc⟩ := numbers_ev c (by omega)
  refine Ev.step (fun k => by rw [laws_FnNumbersOrder.j0]) ?_
  refine ev_neg (by simp) (ea.bind ?_)
  cases na with
  | false => exact ev_neg (by simp) out1
  | true =>
  refine ev_pos rfl (eb.bind ?_)
  cases nb with
  | false => exact ev_neg (by simp) out1
  | true =>
  refine ev_pos rfl (ec.bind ?_)
  cases nc with
  | false => exact out1
  | true =>
  have im : ∀ {x y : List S29}, small x = true → small y = true → Giv.impl_CompareNumbers.f x y = some (padL cI 0 (zn x) (zn y)) := fun hx hy => if_pos ⟨hx, hy⟩
  refine Ev.step (fun k => by rw [laws_FnNumbersOrder.j1]) ?_
  refine ev_neg (by simp) ?_
  have m := padL_cmp cI_cmp 0
  rw [awake, im (sa rfl) (sa rfl), im (sa rfl) (sb rfl), im (sb rfl) (sc rfl), im (sa rfl) (sc rfl)]
  refine ev_some (ev_pos rfl (ev_some (ev_pos (m.self _) (ev_some (ev_some (ev_some ?_))))))
  exact (chained_ev (m.chain _ _ _)).bind (Ev.now _)
end Go.Proofs.Ytcaeghgbeldlaaa.Pure
