-- Written by a working copy of the kit's print program, turned at a few places by wip/tool/mkprint.py. Lean checks it.
import Derived.Test.YtnbpoplomdocjaaGreatDoorQFx0
namespace Go.Proofs.YtnbpoplomdocjaaGreatDoor.QF
open Go.RowKit Go.Proofs.YtnbpoplomdocjaaGreatDoorW.PrintWords Go.Proofs.YtnbpoplomdocjaaGreatDoorW.PrintLast Go.Proofs.YtnbpoplomdocjaaGreatDoorW.PrintMore
attribute [local go_sem] max2_int min2_int max_two min_two max_three min_three max_four min_four   -- for this text's walks alone
set_option linter.unusedVariables false
set_option linter.unusedSimpArgs false

/-! ### semantic_fetch: function 105 -/
def semantic_fetch.f (l0 : List ByteArray) (a1 : Int) (a2 : ByteArray) : Option (ByteArray) := if (l0.length : Int) ≤ a1 then (some a2) else (if 0 ≤ a1 then (if a1 < (l0.length : Int) then (some (rdOf ByteArray.empty l0 a1)) else (none)) else (none))
set_option maxHeartbeats 8000000 in
set_option maxRecDepth 100000 in
theorem semantic_fetch.calls (A0 : Option Addr) (c0 : Nat) (l0 : List ByteArray) (a1 : Int) (a2 : ByteArray) (r : ByteArray) (w : World) (hr0 : Kd.C Kd.string w A0 l0.length l0) (hc0 : l0.length ≤ c0) (h : semantic_fetch.f l0 a1 a2 = some r) :
    Calls Tryz.prog 105 #[.slice A0 l0.length c0, .int .i64 a1, .string a2] w fun e w' => e = .returned (.string r) ∧ Drawn0 w w' := by
  have HR0 := Aside0.mk hr0
  have HC0 := Aside0.mk hc0
  clear hr0 hc0
  have H : (if (l0.length : Int) ≤ a1 then (some a2) else (if 0 ≤ a1 then (if a1 < (l0.length : Int) then (some (rdOf ByteArray.empty l0 a1)) else (none)) else (none))) = some r := h
  clear h
  by_cases c4 : (l0.length : Int) ≤ a1
  · rw [if_pos c4] at H
    have c4b0 : decide ((l0.length : Int) ≤ a1) = true := decide_eq_true c4
    clear c4
    obtain rfl := Option.some.inj H
    go_enter Tryz.func105, Tryz.ntmps105
    go_wp2
    go_ret
    exact ⟨by first | rfl | (simp; done) | (simp [*]; done) | (simp [bne_nil_]; done), by repeat (first | exact Drawn0.refl _ | apply Drawn0.step)⟩
  · rw [if_neg c4] at H
    have c4b0 : decide ((l0.length : Int) ≤ a1) = false := decide_eq_false c4
    clear c4
    by_cases c5 : 0 ≤ a1
    · rw [if_pos c5] at H
      have c5b0 : decide (0 ≤ a1) = true := decide_eq_true c5
      clear c5
      by_cases c6 : a1 < (l0.length : Int)
      · rw [if_pos c6] at H
        have c6b0 : decide (a1 < (l0.length : Int)) = true := decide_eq_true c6
        clear c6
        obtain rfl := Option.some.inj H
        have p101 : 0 ≤ (a1 : Int) := of_decide_eq_true (by first | (with_reducible assumption) | assumption)
        have q101 : a1 < (l0.length : Int) := of_decide_eq_true (by first | (with_reducible assumption) | assumption)
        obtain ⟨ad101, e101, hx101_0⟩ := Kd.at_string HR0.out a1 p101 q101
        cases e101
        replace p101 := eq_true p101
        replace q101 := eq_true q101
        go_enter Tryz.func105, Tryz.ntmps105
        go_wp2
        go_ret
        exact ⟨by first | rfl | (simp; done) | (simp [*]; done) | (simp [bne_nil_]; done), by repeat (first | exact Drawn0.refl _ | apply Drawn0.step)⟩
      · rw [if_neg c6] at H
        exact absurd H (by simp)
    · rw [if_neg c5] at H
      exact absurd H (by simp)

end Go.Proofs.YtnbpoplomdocjaaGreatDoor.QF
