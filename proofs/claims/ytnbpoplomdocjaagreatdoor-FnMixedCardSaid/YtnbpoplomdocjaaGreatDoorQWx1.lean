-- Written by a working copy of the kit's print program, turned at a few places by wip/tool/mkprint.py. Lean checks it.
import Derived.Test.YtnbpoplomdocjaaGreatDoorQWx0
namespace Go.Proofs.YtnbpoplomdocjaaGreatDoor.QW
open Go.RowKit Go.Proofs.YtnbpoplomdocjaaGreatDoorW.PrintWords Go.Proofs.YtnbpoplomdocjaaGreatDoorW.PrintLast Go.Proofs.YtnbpoplomdocjaaGreatDoorW.PrintMore
attribute [local go_sem] max2_int min2_int max_two min_two max_three min_three max_four min_four   -- for this text's walks alone
set_option linter.unusedVariables false
set_option linter.unusedSimpArgs false

/-! ### semantic_weighDebianChar: function 104 -/
def semantic_weighDebianChar.f (a0 : ByteArray) : Option (Int) := if a0.toList = ([126] : List UInt8) then (some 1) else (if a0.toList = ([] : List UInt8) then (some 2) else (if 0 < (a0.size : Int) then (if (wrap64 (bt a0 0)) < 65 then (some (wrap64 ((wrap64 (bt a0 0)) + 122))) else (if (wrap64 (bt a0 0)) > 90 then (if (wrap64 (bt a0 0)) < 97 then (some (wrap64 ((wrap64 (bt a0 0)) + 122))) else (if (wrap64 (bt a0 0)) > 122 then (some (wrap64 ((wrap64 (bt a0 0)) + 122))) else (some (wrap64 (bt a0 0))))) else (if (wrap64 (bt a0 0)) > 122 then (some (wrap64 ((wrap64 (bt a0 0)) + 122))) else (some (wrap64 (bt a0 0)))))) else (none)))
set_option maxHeartbeats 8000000 in
set_option maxRecDepth 100000 in
theorem semantic_weighDebianChar.calls (a0 : ByteArray) (r : Int) (w : World) (h : semantic_weighDebianChar.f a0 = some r) :
    Calls Tryz.prog 104 #[.string a0] w fun e w' => e = .returned (.int .i64 r) ∧ Drawn0 w w' := by
  have H : (if a0.toList = ([126] : List UInt8) then (some 1) else (if a0.toList = ([] : List UInt8) then (some 2) else (if 0 < (a0.size : Int) then (if (wrap64 (bt a0 0)) < 65 then (some (wrap64 ((wrap64 (bt a0 0)) + 122))) else (if (wrap64 (bt a0 0)) > 90 then (if (wrap64 (bt a0 0)) < 97 then (some (wrap64 ((wrap64 (bt a0 0)) + 122))) else (if (wrap64 (bt a0 0)) > 122 then (some (wrap64 ((wrap64 (bt a0 0)) + 122))) else (some (wrap64 (bt a0 0))))) else (if (wrap64 (bt a0 0)) > 122 then (some (wrap64 ((wrap64 (bt a0 0)) + 122))) else (some (wrap64 (bt a0 0)))))) else (none)))) = some r := h
  clear h
  by_cases c2 : a0.toList = ([126] : List UInt8)
  · rw [if_pos c2] at H
    have c2b0 : (a0.toList == ([126] : List UInt8)) = true := beq_iff_eq.mpr c2
    have c2b1 : (a0.toList != ([126] : List UInt8)) = false := bne_eq_false_iff_eq.mpr c2
    clear c2
    obtain rfl := Option.some.inj H
    go_enter Tryz.func104, Tryz.ntmps104
    go_wp2
    go_ret
    exact ⟨by first | rfl | (simp; done) | (simp [*]; done) | (simp [bne_nil_]; done), by repeat (first | exact Drawn0.refl _ | apply Drawn0.step)⟩
  · rw [if_neg c2] at H
    have c2b0 : (a0.toList == ([126] : List UInt8)) = false := beq_eq_false_iff_ne.mpr c2
    have c2b1 : (a0.toList != ([126] : List UInt8)) = true := bne_iff_ne.mpr c2
    by_cases c3 : a0.toList = ([] : List UInt8)
    · rw [if_pos c3] at H
      have c3b0 : (a0.toList == ([] : List UInt8)) = true := beq_iff_eq.mpr c3
      have c3b1 : (a0.toList != ([] : List UInt8)) = false := bne_eq_false_iff_eq.mpr c3
      clear c3
      obtain rfl := Option.some.inj H
      go_enter Tryz.func104, Tryz.ntmps104
      go_wp2
      go_ret
      exact ⟨by first | rfl | (simp; done) | (simp [*]; done) | (simp [bne_nil_]; done), by repeat (first | exact Drawn0.refl _ | apply Drawn0.step)⟩
    · rw [if_neg c3] at H
      have c3b0 : (a0.toList == ([] : List UInt8)) = false := beq_eq_false_iff_ne.mpr c3
      have c3b1 : (a0.toList != ([] : List UInt8)) = true := bne_iff_ne.mpr c3
      by_cases c4 : 0 < (a0.size : Int)
      · rw [if_pos c4] at H
        have c4b0 : decide (0 < (a0.size : Int)) = true := decide_eq_true c4
        have c4b1 : decide (0 < a0.size) = true := decide_eq_true (by omega)
        clear c4
        by_cases c6 : (wrap64 (bt a0 0)) < 65
        · rw [if_pos c6] at H
          have c6b0 : decide ((wrap64 (bt a0 0)) < 65) = true := decide_eq_true c6
          clear c6
          obtain rfl := Option.some.inj H
          have p5 : 0 ≤ (0 : Int) := (by omega)
          have q5 : 0 < a0.size := (by have : (0 : Int) < (a0.size : Int) := of_decide_eq_true (by first | (with_reducible assumption) | assumption); omega)
          have hx5 : ∀ h : 0 < a0.size, ((a0[0]'h).toNat : Int) = bt a0 0 := bt_at a0 0
          clear p5
          have qi5 : (0 < (a0.size : Int)) = True := eq_true (of_decide_eq_true (by first | (with_reducible assumption) | assumption))
          replace q5 := eq_true q5
          go_enter Tryz.func104, Tryz.ntmps104
          go_wp2
          go_ret
          exact ⟨by first | rfl | (simp; done) | (simp [*]; done) | (simp [bne_nil_]; done), by repeat (first | exact Drawn0.refl _ | apply Drawn0.step)⟩
        · rw [if_neg c6] at H
          have c6b0 : decide ((wrap64 (bt a0 0)) < 65) = false := decide_eq_false c6
          clear c6
          by_cases c7 : (wrap64 (bt a0 0)) > 90
          · rw [if_pos c7] at H
            have c7b0 : decide (90 < (wrap64 (bt a0 0))) = true := decide_eq_true c7
            clear c7
            by_cases c8 : (wrap64 (bt a0 0)) < 97
            · rw [if_pos c8] at H
              have c8b0 : decide ((wrap64 (bt a0 0)) < 97) = true := decide_eq_true c8
              clear c8
              obtain rfl := Option.some.inj H
              have p5 : 0 ≤ (0 : Int) := (by omega)
              have q5 : 0 < a0.size := (by have : (0 : Int) < (a0.size : Int) := of_decide_eq_true (by first | (with_reducible assumption) | assumption); omega)
              have hx5 : ∀ h : 0 < a0.size, ((a0[0]'h).toNat : Int) = bt a0 0 := bt_at a0 0
              clear p5
              have qi5 : (0 < (a0.size : Int)) = True := eq_true (of_decide_eq_true (by first | (with_reducible assumption) | assumption))
              replace q5 := eq_true q5
              go_enter Tryz.func104, Tryz.ntmps104
              go_wp2
              go_ret
              exact ⟨by first | rfl | (simp; done) | (simp [*]; done) | (simp [bne_nil_]; done), by repeat (first | exact Drawn0.refl _ | apply Drawn0.step)⟩
            · rw [if_neg c8] at H
              have c8b0 : decide ((wrap64 (bt a0 0)) < 97) = false := decide_eq_false c8
              clear c8
              by_cases c9 : (wrap64 (bt a0 0)) > 122
              · rw [if_pos c9] at H
                have c9b0 : decide (122 < (wrap64 (bt a0 0))) = true := decide_eq_true c9
                clear c9
                obtain rfl := Option.some.inj H
                have p5 : 0 ≤ (0 : Int) := (by omega)
                have q5 : 0 < a0.size := (by have : (0 : Int) < (a0.size : Int) := of_decide_eq_true (by first | (with_reducible assumption) | assumption); omega)
                have hx5 : ∀ h : 0 < a0.size, ((a0[0]'h).toNat : Int) = bt a0 0 := bt_at a0 0
                clear p5
                have qi5 : (0 < (a0.size : Int)) = True := eq_true (of_decide_eq_true (by first | (with_reducible assumption) | assumption))
                replace q5 := eq_true q5
                go_enter Tryz.func104, Tryz.ntmps104
                go_wp2
                go_ret
                exact ⟨by first | rfl | (simp; done) | (simp [*]; done) | (simp [bne_nil_]; done), by repeat (first | exact Drawn0.refl _ | apply Drawn0.step)⟩
              · rw [if_neg c9] at H
                have c9b0 : decide (122 < (wrap64 (bt a0 0))) = false := decide_eq_false c9
                clear c9
                obtain rfl := Option.some.inj H
                have p5 : 0 ≤ (0 : Int) := (by omega)
                have q5 : 0 < a0.size := (by have : (0 : Int) < (a0.size : Int) := of_decide_eq_true (by first | (with_reducible assumption) | assumption); omega)
                have hx5 : ∀ h : 0 < a0.size, ((a0[0]'h).toNat : Int) = bt a0 0 := bt_at a0 0
                clear p5
                have qi5 : (0 < (a0.size : Int)) = True := eq_true (of_decide_eq_true (by first | (with_reducible assumption) | assumption))
                replace q5 := eq_true q5
                go_enter Tryz.func104, Tryz.ntmps104
                go_wp2
                go_ret
                exact ⟨by first | rfl | (simp; done) | (simp [*]; done) | (simp [bne_nil_]; done), by repeat (first | exact Drawn0.refl _ | apply Drawn0.step)⟩
          · rw [if_neg c7] at H
            have c7b0 : decide (90 < (wrap64 (bt a0 0))) = false := decide_eq_false c7
            clear c7
            by_cases c10 : (wrap64 (bt a0 0)) > 122
            · rw [if_pos c10] at H
              have c10b0 : decide (122 < (wrap64 (bt a0 0))) = true := decide_eq_true c10
              clear c10
              obtain rfl := Option.some.inj H
              have p5 : 0 ≤ (0 : Int) := (by omega)
              have q5 : 0 < a0.size := (by have : (0 : Int) < (a0.size : Int) := of_decide_eq_true (by first | (with_reducible assumption) | assumption); omega)
              have hx5 : ∀ h : 0 < a0.size, ((a0[0]'h).toNat : Int) = bt a0 0 := bt_at a0 0
              clear p5
              have qi5 : (0 < (a0.size : Int)) = True := eq_true (of_decide_eq_true (by first | (with_reducible assumption) | assumption))
              replace q5 := eq_true q5
              go_enter Tryz.func104, Tryz.ntmps104
              go_wp2
              go_ret
              exact ⟨by first | rfl | (simp; done) | (simp [*]; done) | (simp [bne_nil_]; done), by repeat (first | exact Drawn0.refl _ | apply Drawn0.step)⟩
            · rw [if_neg c10] at H
              have c10b0 : decide (122 < (wrap64 (bt a0 0))) = false := decide_eq_false c10
              clear c10
              obtain rfl := Option.some.inj H
              have p5 : 0 ≤ (0 : Int) := (by omega)
              have q5 : 0 < a0.size := (by have : (0 : Int) < (a0.size : Int) := of_decide_eq_true (by first | (with_reducible assumption) | assumption); omega)
              have hx5 : ∀ h : 0 < a0.size, ((a0[0]'h).toNat : Int) = bt a0 0 := bt_at a0 0
              clear p5
              have qi5 : (0 < (a0.size : Int)) = True := eq_true (of_decide_eq_true (by first | (with_reducible assumption) | assumption))
              replace q5 := eq_true q5
              go_enter Tryz.func104, Tryz.ntmps104
              go_wp2
              go_ret
              exact ⟨by first | rfl | (simp; done) | (simp [*]; done) | (simp [bne_nil_]; done), by repeat (first | exact Drawn0.refl _ | apply Drawn0.step)⟩
      · rw [if_neg c4] at H
        exact absurd H (by simp)

end Go.Proofs.YtnbpoplomdocjaaGreatDoor.QW
