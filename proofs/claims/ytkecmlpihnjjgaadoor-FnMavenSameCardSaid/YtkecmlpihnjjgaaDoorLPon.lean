/- What the reference answers: numbers in digits compared. -/
import Derived.Test.YtkecmlpihnjjgaaDoorLPseg
namespace Go.Proofs.YtkecmlpihnjjgaaDoor.QL
open Go.RowKit Go.Proofs.YtkecmlpihnjjgaaDoorW.PrintWords Go.Proofs.YtkecmlpihnjjgaaDoorW.PrintLast Go.Proofs.YtkecmlpihnjjgaaDoor.Pk Go.Proofs.YtkecmlpihnjjgaaDoor.Giv Go.Proofs.YtkecmlpihnjjgaaDoor.Ord
set_option linter.unusedVariables false

theorem on_l1 (n : Nat) (a : ByteArray) (sa : List UInt8) (ha : Rpm.strip0 a.toList = a.toList) : ∀ b : ByteArray, b.size ≤ n → b.size < 4611686018427387904 → Ev (fun k => spec_orderNumbers.l1 k a b) (if cI a.size (Rpm.strip0 b.toList).length = 0 then cS a.toList (Rpm.strip0 b.toList) else cI a.size (Rpm.strip0 b.toList).length) := by
  have fin : ∀ b : ByteArray, Rpm.strip0 b.toList = b.toList → Ev (fun k => spec_orderNumbers.j3 k a b) (if cI a.size (Rpm.strip0 b.toList).length = 0 then cS a.toList (Rpm.strip0 b.toList) else cI a.size (Rpm.strip0 b.toList).length) := by
    intro b hb
    rw [hb, len_toList]
    refine Ev.step (fun k => by rw [spec_orderNumbers.j3]) ?_
    by_cases h : (a.size : Int) = (b.size : Int)
    · rw [if_pos (cI_zero.2 h)]
      exact ev_pos h (ev_some (Ev.now _))
    · rw [if_neg (fun e => h (cI_zero.1 e))]
      refine ev_neg h ?_
      unfold spec_orderInts.f cI
      by_cases h1 : (a.size : Int) < (b.size : Int)
      · rw [if_pos h1, if_pos h1]
        exact ev_some (Ev.now _)
      · rw [if_neg h1, if_pos (by omega), if_neg h1, if_pos (by omega)]
        exact ev_some (Ev.now _)
  induction n with
  | zero =>
    intro b hb _
    refine Ev.step (fun k => by rw [spec_orderNumbers.l1]) ?_
    refine ev_neg (by omega) (fin b ?_)
    have : b.toList = [] := List.length_eq_zero_iff.1 (by rw [len_toList]; omega)
    rw [this]
    rfl
  | succ n ih =>
    intro b hb hz
    refine Ev.step (fun k => by rw [spec_orderNumbers.l1]) ?_
    by_cases h : (b.size : Int) > 0
    · have h0 : 0 < b.size := by omega
      have et := tail_eq b h0
      refine ev_pos h (ev_pos (by omega) ?_)
      rw [bt_nat b 0 h0 |> (fun e => (e : bt b 0 = _))]
      by_cases c : ((b[0]'h0).toNat : Int) = 48
      · refine ev_pos c (ev_pos (by omega) ?_)
        have z := ih (b.extract 1 b.size) (by rw [ByteArray.size_extract]; omega) (by rw [ByteArray.size_extract]; omega)
        have e : Rpm.strip0 b.toList = Rpm.strip0 (b.extract 1 b.size).toList := by
          conv => lhs; rw [et]
          unfold Rpm.strip0
          rw [List.dropWhile_cons_of_pos (by simp; omega)]
        rw [e]
        exact z
      · refine ev_neg c (fin b ?_)
        conv => lhs; rw [et]
        unfold Rpm.strip0
        rw [List.dropWhile_cons_of_neg (by simp; omega)]
        exact et.symm
    · refine ev_neg h (fin b ?_)
      have : b.toList = [] := List.length_eq_zero_iff.1 (by rw [len_toList]; omega)
      rw [this]
      rfl
theorem on_l0 (n : Nat) (b : ByteArray) (hb : b.size < 4611686018427387904) : ∀ a : ByteArray, a.size ≤ n → a.size < 4611686018427387904 → Ev (fun k => spec_orderNumbers.l0 k a b) (Rpm.numC a.toList b.toList) := by
  have fin : ∀ a : ByteArray, Rpm.strip0 a.toList = a.toList → Ev (fun k => spec_orderNumbers.j1 k a b) (Rpm.numC a.toList b.toList) := by
    intro a ha
    refine Ev.step (fun k => by rw [spec_orderNumbers.j1]) ?_
    have := on_l1 b.size a [] ha b (Nat.le_refl _) hb
    unfold Rpm.numC
    rw [ha, len_toList]
    exact this
  induction n with
  | zero =>
    intro a ha _
    refine Ev.step (fun k => by rw [spec_orderNumbers.l0]) ?_
    refine ev_neg (by omega) (fin a ?_)
    have : a.toList = [] := List.length_eq_zero_iff.1 (by rw [len_toList]; omega)
    rw [this]
    rfl
  | succ n ih =>
    intro a ha hz
    refine Ev.step (fun k => by rw [spec_orderNumbers.l0]) ?_
    by_cases h : (a.size : Int) > 0
    · have h0 : 0 < a.size := by omega
      have et := tail_eq a h0
      refine ev_pos h (ev_pos (by omega) ?_)
      rw [bt_nat a 0 h0 |> (fun e => (e : bt a 0 = _))]
      by_cases c : ((a[0]'h0).toNat : Int) = 48
      · refine ev_pos c (ev_pos (by omega) ?_)
        have z := ih (a.extract 1 a.size) (by rw [ByteArray.size_extract]; omega) (by rw [ByteArray.size_extract]; omega)
        have e : Rpm.strip0 a.toList = Rpm.strip0 (a.extract 1 a.size).toList := by
          conv => lhs; rw [et]
          unfold Rpm.strip0
          rw [List.dropWhile_cons_of_pos (by simp; omega)]
        unfold Rpm.numC at z ⊢
        rw [e]
        exact z
      · refine ev_neg c (fin a ?_)
        conv => lhs; rw [et]
        unfold Rpm.strip0
        rw [List.dropWhile_cons_of_neg (by simp; omega)]
        exact et.symm
    · refine ev_neg h (fin a ?_)
      have : a.toList = [] := List.length_eq_zero_iff.1 (by rw [len_toList]; omega)
      rw [this]
      rfl
theorem orderNumbers_ev (a b : ByteArray) (ha : a.size < 4611686018427387904) (hb : b.size < 4611686018427387904) : Ev (fun k => spec_orderNumbers.f k a b) (Rpm.numC a.toList b.toList) := on_l0 a.size b hb a (Nat.le_refl _) ha
end Go.Proofs.YtkecmlpihnjjgaaDoor.QL
