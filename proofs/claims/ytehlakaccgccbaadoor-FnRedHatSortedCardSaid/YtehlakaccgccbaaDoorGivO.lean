/- Contracts by hand: the order of two texts. -/
import Derived.Test.YtehlakaccgccbaaDoorProg
import Derived.Test.YtehlakaccgccbaaDoorOrd
import Derived.WalkKit
import Derived.WalkLawsBesides
import Derived.Lib.Bytealg
namespace Go.Proofs.YtehlakaccgccbaaDoor.Giv
open Go.RowKit Go.Proofs.YtehlakaccgccbaaDoor.Ord
set_option linter.unusedSimpArgs false
set_option linter.unusedVariables false

theorem less_iff : ∀ a b : List UInt8, Op.bytesLess a b = true ↔ cS a b = -1
  | [], [] => by simp [Op.bytesLess, cS, lexL]
  | [], _ :: _ => by simp [Op.bytesLess, cS, lexL]
  | _ :: _, [] => by simp [Op.bytesLess, cS, lexL]
  | x :: xs, y :: ys => by
    have ih := less_iff xs ys
    have u : cS (x :: xs) (y :: ys) = if cB x y = 0 then cS xs ys else cB x y := rfl
    rw [u]
    simp only [Op.bytesLess, Bool.or_eq_true, Bool.and_eq_true, decide_eq_true_eq, beq_iff_eq, ih, UInt8.lt_iff_toNat_lt]
    by_cases z : cB x y = 0
    · have e := cB_zero.1 z
      subst e
      rw [if_pos z]
      simp
    · rw [if_neg z]
      have hne : x ≠ y := fun e => z (cB_zero.2 e)
      have v : cB x y = -1 ↔ x.toNat < y.toNat := by
        unfold cB
        rw [cI_neg]
        omega
      rw [v]
      simp [hne]
theorem less_cS (a b : List UInt8) : Op.bytesLess a b = decide (cS a b = -1) := by
  rw [Bool.eq_iff_iff, less_iff]
  simp
theorem beq_cS (a b : List UInt8) : (a == b) = decide (cS a b = 0) := by
  rw [Bool.eq_iff_iff]
  simp [cS_zero]
theorem compare_cS : ∀ a b : List UInt8, Lib.compareBytes a b = cS a b
  | [], [] => rfl
  | [], _ :: _ => rfl
  | _ :: _, [] => rfl
  | x :: xs, y :: ys => by
    have ih := compare_cS xs ys
    have u : cS (x :: xs) (y :: ys) = if cB x y = 0 then cS xs ys else cB x y := rfl
    rw [u]
    simp only [Lib.compareBytes, ih, cB, cI, UInt8.lt_iff_toNat_lt]
    repeat' split
    all_goals first | rfl | omega | (exfalso; omega)

def spec_order.f (a0 a1 : ByteArray) : Option Int := some (cS a0.toList a1.toList)
theorem spec_order.calls (a0 a1 : ByteArray) (r : Int) (w : World) (h : spec_order.f a0 a1 = some r) :
    Calls Tryd.prog 29 #[.string a0, .string a1] w fun e w' => e = .returned (.int .i64 r) ∧ ∃ n, w' = w.drewN n := by
  obtain rfl := Option.some.inj h
  clear h
  have hl := less_cS a0.toList a1.toList
  have hq := beq_cS a0.toList a1.toList
  rcases cS_cmp.rng a0.toList a1.toList with e | e | e
  · rw [e] at hl hq ⊢
    have hl' : Op.bytesLess a0.toList a1.toList = true := by simpa using hl
    clear hl hq e
    go_enter Tryd.func29, Tryd.ntmps29
    go_wp2
    go_ret
    exact ⟨rfl, 0, rfl⟩
  · rw [e] at hl hq ⊢
    have hl' : Op.bytesLess a0.toList a1.toList = false := by simpa using hl
    have hq' : (a0.toList == a1.toList) = true := by simpa using hq
    clear hl hq e
    go_enter Tryd.func29, Tryd.ntmps29
    go_wp2
    go_ret
    exact ⟨rfl, 0, rfl⟩
  · rw [e] at hl hq ⊢
    have hl' : Op.bytesLess a0.toList a1.toList = false := by simpa using hl
    have hq' : (a0.toList == a1.toList) = false := by simpa using hq
    clear hl hq e
    go_enter Tryd.func29, Tryd.ntmps29
    go_wp2
    go_ret
    exact ⟨rfl, 0, rfl⟩
end Go.Proofs.YtehlakaccgccbaaDoor.Giv
