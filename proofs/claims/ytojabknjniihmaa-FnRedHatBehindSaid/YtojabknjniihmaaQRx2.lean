-- Written by a working copy of the kit's print program, turned at a few places by wip/tool/mkprint.py. Lean checks it.
import Derived.Test.YtojabknjniihmaaQRx0
import Derived.Test.YtojabknjniihmaaQRx1
namespace Go.Proofs.Ytojabknjniihmaa.QR
open Go.RowKit Go.Proofs.YtojabknjniihmaaW.PrintWords Go.Proofs.YtojabknjniihmaaW.PrintLast Go.Proofs.YtojabknjniihmaaW.PrintMore
attribute [local go_sem] max2_int min2_int max_two min_two max_three min_three max_four min_four   -- for this text's walks alone
set_option linter.unusedVariables false
set_option linter.unusedSimpArgs false

/-! ### spec_rpmSkip: function 38 -/
def spec_rpmSkip.l0 : Nat → ByteArray → Option (ByteArray)
  | 0, _ => none
  | k + 1, x0 => if (x0.size : Int) > 0 then (if 0 < (x0.size : Int) then ((spec_isDigit.f (bt x0 0)).bind fun t106 => (if t106 = true then (some x0) else ((spec_isLetter.f (bt x0 0)).bind fun t107 => (if t107 = true then (some x0) else (if (bt x0 0) = 126 then (some x0) else (if (bt x0 0) = 94 then (some x0) else (if 1 ≤ (x0.size : Int) then (spec_rpmSkip.l0 k (x0.extract 1 x0.size)) else (none)))))))) else (none)) else (some x0)
def spec_rpmSkip.f (k : Nat) (a0 : ByteArray) : Option (ByteArray) := spec_rpmSkip.l0 k a0
theorem spec_rpmSkip.mono_l : ∀ k, (∀ y0, LeO (spec_rpmSkip.l0 k y0) (spec_rpmSkip.l0 (k + 1) y0))
  | 0 => fun _ r h => by simp [spec_rpmSkip.l0] at h
  | k + 1 => by
    have ih0 := spec_rpmSkip.mono_l k
    · intro y0
      unfold spec_rpmSkip.l0
      repeat' first
      | (with_reducible exact ih0 _)
      | (with_reducible exact LeO.refl _)
      | (with_reducible exact LeO.none _)
      | (with_reducible refine LeO.ite ?_ ?_)
      | (with_reducible refine LeO.bind ?_ (fun _ => ?_))
      | exact ih0 _
      | exact LeO.none _
      | refine LeO.ite ?_ ?_
      | refine LeO.bind ?_ (fun _ => ?_)
theorem spec_rpmSkip.mono : ∀ a0 k, LeO (spec_rpmSkip.f k a0) (spec_rpmSkip.f (k + 1) a0) := by
  intro a0 k
  have ih0 := spec_rpmSkip.mono_l k
  unfold spec_rpmSkip.f
  repeat' first
      | (with_reducible exact ih0 _)
      | (with_reducible exact LeO.refl _)
      | (with_reducible exact LeO.none _)
      | (with_reducible refine LeO.ite ?_ ?_)
      | (with_reducible refine LeO.bind ?_ (fun _ => ?_))
      | exact ih0 _
      | exact LeO.none _
      | refine LeO.ite ?_ ?_
      | refine LeO.bind ?_ (fun _ => ?_)
set_option maxHeartbeats 8000000 in
set_option maxRecDepth 100000 in
theorem spec_rpmSkip.calls (k : Nat) (a0 : ByteArray) (r : ByteArray) (w : World) (h : spec_rpmSkip.f k a0 = some r) :
    Calls Try.prog 38 #[.string a0] w fun e w' => e = .returned (.string r) ∧ Drawn0 w w' := by
  have H : (spec_rpmSkip.l0 k a0) = some r := h
  clear h
  have H' := Aside0.mk H
  clear H
  go_enter Try.func38, Try.ntmps38
  go_wp2
  go_loopg [0] k (fun kq v0 w' => ∃ (x0_1 : ByteArray), v0 = .string x0_1 ∧ Aside0 (spec_rpmSkip.l0 kq x0_1 = some r) ∧ Aside0 (kq ≤ k) ∧ Drawn0 w w')
  case atStart => exact ⟨(a0), (by first | rfl | (simp; done) | (simp [*]; done) | (simp [bne_nil_]; done)), H', ⟨Nat.le_refl _⟩, by repeat (first | exact Drawn0.refl _ | apply Drawn0.step)⟩
  case round =>
    clear H'
    obtain ⟨x0_1, rfl, HA, HK1, ⟨m1, rfl⟩⟩ := hrel
    cases gk with
    | zero => exact absurd HA.out (by simp [spec_rpmSkip.l0])
    | succ k1 =>
      have H := HA.out
      clear HA
      simp only [spec_rpmSkip.l0] at H
      by_cases c2 : (x0_1.size : Int) > 0
      · rw [if_pos c2] at H
        have c2b0 : decide (0 < (x0_1.size : Int)) = true := decide_eq_true c2
        have c2b1 : decide (0 < x0_1.size) = true := decide_eq_true (by omega)
        clear c2
        by_cases c3 : 0 < (x0_1.size : Int)
        · rw [if_pos c3] at H
          have c3b0 : decide (0 < (x0_1.size : Int)) = true := decide_eq_true c3
          have c3b1 : decide (0 < x0_1.size) = true := decide_eq_true (by omega)
          clear c3
          replace H := Option.bind_eq_some_iff.mp H
          obtain ⟨t106, A50, H⟩ := H
          replace H : (if t106 = true then (some x0_1) else ((spec_isLetter.f (bt x0_1 0)).bind fun t107 => (if t107 = true then (some x0_1) else (if (bt x0_1 0) = 126 then (some x0_1) else (if (bt x0_1 0) = 94 then (some x0_1) else (if 1 ≤ (x0_1.size : Int) then (spec_rpmSkip.l0 k1 (x0_1.extract 1 x0_1.size)) else (none))))))) = some r := H
          have A5 := Aside0.mk A50
          clear A50
          by_cases c6 : t106 = true
          · subst c6
            have H1 : (some x0_1) = some r := by rw [if_pos rfl] at H; exact H
            clear H
            have H := H1
            clear H1
            obtain rfl := Option.some.inj H
            have p4 : 0 ≤ (0 : Int) := (by omega)
            have q4 : 0 < x0_1.size := (by have : (0 : Int) < (x0_1.size : Int) := of_decide_eq_true (by first | (with_reducible assumption) | assumption); omega)
            have hx4 : ∀ h : 0 < x0_1.size, ((x0_1[0]'h).toNat : Int) = bt x0_1 0 := bt_at x0_1 0
            clear p4
            have qi4 : (0 < (x0_1.size : Int)) = True := eq_true (of_decide_eq_true (by first | (with_reducible assumption) | assumption))
            replace q4 := eq_true q4
            go_wp2_with (first | (go_at_call 46; (with_reducible refine (spec_isDigit.calls (bt x0_1 0) true _ A5.out).mono ?_); rintro e w' ⟨rfl, ⟨nd, rfl⟩⟩))
            go_ret
            exact ⟨by first | rfl | (simp; done) | (simp [*]; done) | (simp [bne_nil_]; done), by repeat (first | exact Drawn0.refl _ | apply Drawn0.step)⟩
          · replace c6 := Bool.eq_false_iff.mpr c6
            subst c6
            have H1 : ((spec_isLetter.f (bt x0_1 0)).bind fun t107 => (if t107 = true then (some x0_1) else (if (bt x0_1 0) = 126 then (some x0_1) else (if (bt x0_1 0) = 94 then (some x0_1) else (if 1 ≤ (x0_1.size : Int) then (spec_rpmSkip.l0 k1 (x0_1.extract 1 x0_1.size)) else (none)))))) = some r := by rw [if_neg (show ¬ (false = true) by decide)] at H; exact H
            clear H
            have H := H1
            clear H1
            replace H := Option.bind_eq_some_iff.mp H
            obtain ⟨t107, A80, H⟩ := H
            replace H : (if t107 = true then (some x0_1) else (if (bt x0_1 0) = 126 then (some x0_1) else (if (bt x0_1 0) = 94 then (some x0_1) else (if 1 ≤ (x0_1.size : Int) then (spec_rpmSkip.l0 k1 (x0_1.extract 1 x0_1.size)) else (none))))) = some r := H
            have A8 := Aside0.mk A80
            clear A80
            by_cases c9 : t107 = true
            · subst c9
              have H1 : (some x0_1) = some r := by rw [if_pos rfl] at H; exact H
              clear H
              have H := H1
              clear H1
              obtain rfl := Option.some.inj H
              have p4 : 0 ≤ (0 : Int) := (by omega)
              have q4 : 0 < x0_1.size := (by have : (0 : Int) < (x0_1.size : Int) := of_decide_eq_true (by first | (with_reducible assumption) | assumption); omega)
              have hx4 : ∀ h : 0 < x0_1.size, ((x0_1[0]'h).toNat : Int) = bt x0_1 0 := bt_at x0_1 0
              clear p4
              have qi4 : (0 < (x0_1.size : Int)) = True := eq_true (of_decide_eq_true (by first | (with_reducible assumption) | assumption))
              replace q4 := eq_true q4
              go_wp2_with (first | (go_at_call 46; (with_reducible refine (spec_isDigit.calls (bt x0_1 0) false _ A5.out).mono ?_); rintro e w' ⟨rfl, ⟨nd, rfl⟩⟩; have p7 : 0 ≤ (0 : Int) := (by omega); have q7 : 0 < x0_1.size := (by have : (0 : Int) < (x0_1.size : Int) := of_decide_eq_true (by first | (with_reducible assumption) | assumption); omega); have hx7 : ∀ h : 0 < x0_1.size, ((x0_1[0]'h).toNat : Int) = bt x0_1 0 := bt_at x0_1 0; clear p7; have qi7 : (0 < (x0_1.size : Int)) = True := eq_true (of_decide_eq_true (by first | (with_reducible assumption) | assumption)); replace q7 := eq_true q7) | (go_at_call 48; (with_reducible refine (spec_isLetter.calls (bt x0_1 0) true _ A8.out).mono ?_); rintro e w' ⟨rfl, ⟨nd, rfl⟩⟩))
              go_ret
              exact ⟨by first | rfl | (simp; done) | (simp [*]; done) | (simp [bne_nil_]; done), by repeat (first | exact Drawn0.refl _ | apply Drawn0.step)⟩
            · replace c9 := Bool.eq_false_iff.mpr c9
              subst c9
              have H1 : (if (bt x0_1 0) = 126 then (some x0_1) else (if (bt x0_1 0) = 94 then (some x0_1) else (if 1 ≤ (x0_1.size : Int) then (spec_rpmSkip.l0 k1 (x0_1.extract 1 x0_1.size)) else (none)))) = some r := by rw [if_neg (show ¬ (false = true) by decide)] at H; exact H
              clear H
              have H := H1
              clear H1
              by_cases c11 : (bt x0_1 0) = 126
              · rw [if_pos c11] at H
                have c11b0 : ((bt x0_1 0) == 126) = true := beq_iff_eq.mpr c11
                have c11b1 : ((bt x0_1 0) != 126) = false := bne_eq_false_iff_eq.mpr c11
                clear c11
                obtain rfl := Option.some.inj H
                have p4 : 0 ≤ (0 : Int) := (by omega)
                have q4 : 0 < x0_1.size := (by have : (0 : Int) < (x0_1.size : Int) := of_decide_eq_true (by first | (with_reducible assumption) | assumption); omega)
                have hx4 : ∀ h : 0 < x0_1.size, ((x0_1[0]'h).toNat : Int) = bt x0_1 0 := bt_at x0_1 0
                clear p4
                have qi4 : (0 < (x0_1.size : Int)) = True := eq_true (of_decide_eq_true (by first | (with_reducible assumption) | assumption))
                replace q4 := eq_true q4
                go_wp2_with (first | (go_at_call 46; (with_reducible refine (spec_isDigit.calls (bt x0_1 0) false _ A5.out).mono ?_); rintro e w' ⟨rfl, ⟨nd, rfl⟩⟩; have p7 : 0 ≤ (0 : Int) := (by omega); have q7 : 0 < x0_1.size := (by have : (0 : Int) < (x0_1.size : Int) := of_decide_eq_true (by first | (with_reducible assumption) | assumption); omega); have hx7 : ∀ h : 0 < x0_1.size, ((x0_1[0]'h).toNat : Int) = bt x0_1 0 := bt_at x0_1 0; clear p7; have qi7 : (0 < (x0_1.size : Int)) = True := eq_true (of_decide_eq_true (by first | (with_reducible assumption) | assumption)); replace q7 := eq_true q7) | (go_at_call 48; (with_reducible refine (spec_isLetter.calls (bt x0_1 0) false _ A8.out).mono ?_); rintro e w' ⟨rfl, ⟨nd, rfl⟩⟩; have p10 : 0 ≤ (0 : Int) := (by omega); have q10 : 0 < x0_1.size := (by have : (0 : Int) < (x0_1.size : Int) := of_decide_eq_true (by first | (with_reducible assumption) | assumption); omega); have hx10 : ∀ h : 0 < x0_1.size, ((x0_1[0]'h).toNat : Int) = bt x0_1 0 := bt_at x0_1 0; clear p10; have qi10 : (0 < (x0_1.size : Int)) = True := eq_true (of_decide_eq_true (by first | (with_reducible assumption) | assumption)); replace q10 := eq_true q10))
                go_ret
                exact ⟨by first | rfl | (simp; done) | (simp [*]; done) | (simp [bne_nil_]; done), by repeat (first | exact Drawn0.refl _ | apply Drawn0.step)⟩
              · rw [if_neg c11] at H
                have c11b0 : ((bt x0_1 0) == 126) = false := beq_eq_false_iff_ne.mpr c11
                have c11b1 : ((bt x0_1 0) != 126) = true := bne_iff_ne.mpr c11
                by_cases c13 : (bt x0_1 0) = 94
                · rw [if_pos c13] at H
                  have c13b0 : ((bt x0_1 0) == 94) = true := beq_iff_eq.mpr c13
                  have c13b1 : ((bt x0_1 0) != 94) = false := bne_eq_false_iff_eq.mpr c13
                  clear c13
                  obtain rfl := Option.some.inj H
                  have p4 : 0 ≤ (0 : Int) := (by omega)
                  have q4 : 0 < x0_1.size := (by have : (0 : Int) < (x0_1.size : Int) := of_decide_eq_true (by first | (with_reducible assumption) | assumption); omega)
                  have hx4 : ∀ h : 0 < x0_1.size, ((x0_1[0]'h).toNat : Int) = bt x0_1 0 := bt_at x0_1 0
                  clear p4
                  have qi4 : (0 < (x0_1.size : Int)) = True := eq_true (of_decide_eq_true (by first | (with_reducible assumption) | assumption))
                  replace q4 := eq_true q4
                  go_wp2_with (first | (go_at_call 46; (with_reducible refine (spec_isDigit.calls (bt x0_1 0) false _ A5.out).mono ?_); rintro e w' ⟨rfl, ⟨nd, rfl⟩⟩; have p7 : 0 ≤ (0 : Int) := (by omega); have q7 : 0 < x0_1.size := (by have : (0 : Int) < (x0_1.size : Int) := of_decide_eq_true (by first | (with_reducible assumption) | assumption); omega); have hx7 : ∀ h : 0 < x0_1.size, ((x0_1[0]'h).toNat : Int) = bt x0_1 0 := bt_at x0_1 0; clear p7; have qi7 : (0 < (x0_1.size : Int)) = True := eq_true (of_decide_eq_true (by first | (with_reducible assumption) | assumption)); replace q7 := eq_true q7) | (go_at_call 48; (with_reducible refine (spec_isLetter.calls (bt x0_1 0) false _ A8.out).mono ?_); rintro e w' ⟨rfl, ⟨nd, rfl⟩⟩; have p10 : 0 ≤ (0 : Int) := (by omega); have q10 : 0 < x0_1.size := (by have : (0 : Int) < (x0_1.size : Int) := of_decide_eq_true (by first | (with_reducible assumption) | assumption); omega); have hx10 : ∀ h : 0 < x0_1.size, ((x0_1[0]'h).toNat : Int) = bt x0_1 0 := bt_at x0_1 0; clear p10; have qi10 : (0 < (x0_1.size : Int)) = True := eq_true (of_decide_eq_true (by first | (with_reducible assumption) | assumption)); replace q10 := eq_true q10; have p12 : 0 ≤ (0 : Int) := (by omega); have q12 : 0 < x0_1.size := (by have : (0 : Int) < (x0_1.size : Int) := of_decide_eq_true (by first | (with_reducible assumption) | assumption); omega); have hx12 : ∀ h : 0 < x0_1.size, ((x0_1[0]'h).toNat : Int) = bt x0_1 0 := bt_at x0_1 0; clear p12; have qi12 : (0 < (x0_1.size : Int)) = True := eq_true (of_decide_eq_true (by first | (with_reducible assumption) | assumption)); replace q12 := eq_true q12))
                  go_ret
                  exact ⟨by first | rfl | (simp; done) | (simp [*]; done) | (simp [bne_nil_]; done), by repeat (first | exact Drawn0.refl _ | apply Drawn0.step)⟩
                · rw [if_neg c13] at H
                  have c13b0 : ((bt x0_1 0) == 94) = false := beq_eq_false_iff_ne.mpr c13
                  have c13b1 : ((bt x0_1 0) != 94) = true := bne_iff_ne.mpr c13
                  by_cases c14 : 1 ≤ (x0_1.size : Int)
                  · rw [if_pos c14] at H
                    have c14b0 := eq_true c14
                    have c14b1 : decide (1 ≤ (x0_1.size : Int)) = true := decide_eq_true c14
                    clear c14
                    have H' := Aside0.mk H
                    clear H
                    have p4 : 0 ≤ (0 : Int) := (by omega)
                    have q4 : 0 < x0_1.size := (by have : (0 : Int) < (x0_1.size : Int) := of_decide_eq_true (by first | (with_reducible assumption) | assumption); omega)
                    have hx4 : ∀ h : 0 < x0_1.size, ((x0_1[0]'h).toNat : Int) = bt x0_1 0 := bt_at x0_1 0
                    clear p4
                    have qi4 : (0 < (x0_1.size : Int)) = True := eq_true (of_decide_eq_true (by first | (with_reducible assumption) | assumption))
                    replace q4 := eq_true q4
                    go_wp2_with (first | (go_at_call 46; (with_reducible refine (spec_isDigit.calls (bt x0_1 0) false _ A5.out).mono ?_); rintro e w' ⟨rfl, ⟨nd, rfl⟩⟩; have p7 : 0 ≤ (0 : Int) := (by omega); have q7 : 0 < x0_1.size := (by have : (0 : Int) < (x0_1.size : Int) := of_decide_eq_true (by first | (with_reducible assumption) | assumption); omega); have hx7 : ∀ h : 0 < x0_1.size, ((x0_1[0]'h).toNat : Int) = bt x0_1 0 := bt_at x0_1 0; clear p7; have qi7 : (0 < (x0_1.size : Int)) = True := eq_true (of_decide_eq_true (by first | (with_reducible assumption) | assumption)); replace q7 := eq_true q7) | (go_at_call 48; (with_reducible refine (spec_isLetter.calls (bt x0_1 0) false _ A8.out).mono ?_); rintro e w' ⟨rfl, ⟨nd, rfl⟩⟩; have p10 : 0 ≤ (0 : Int) := (by omega); have q10 : 0 < x0_1.size := (by have : (0 : Int) < (x0_1.size : Int) := of_decide_eq_true (by first | (with_reducible assumption) | assumption); omega); have hx10 : ∀ h : 0 < x0_1.size, ((x0_1[0]'h).toNat : Int) = bt x0_1 0 := bt_at x0_1 0; clear p10; have qi10 : (0 < (x0_1.size : Int)) = True := eq_true (of_decide_eq_true (by first | (with_reducible assumption) | assumption)); replace q10 := eq_true q10; have p12 : 0 ≤ (0 : Int) := (by omega); have q12 : 0 < x0_1.size := (by have : (0 : Int) < (x0_1.size : Int) := of_decide_eq_true (by first | (with_reducible assumption) | assumption); omega); have hx12 : ∀ h : 0 < x0_1.size, ((x0_1[0]'h).toNat : Int) = bt x0_1 0 := bt_at x0_1 0; clear p12; have qi12 : (0 < (x0_1.size : Int)) = True := eq_true (of_decide_eq_true (by first | (with_reducible assumption) | assumption)); replace q12 := eq_true q12))
                    go_roundg k1
                    case measure => have := HK1.out; omega
                    case rel => exact ⟨(x0_1.extract 1 x0_1.size), (by first | rfl | (simp; done) | (simp [*]; done) | (simp [bne_nil_]; done)), H', ⟨by have := HK1.out; omega⟩, by repeat (first | exact Drawn0.refl _ | apply Drawn0.step)⟩
                  · rw [if_neg c14] at H
                    exact absurd H (by simp)
        · rw [if_neg c3] at H
          exact absurd H (by simp)
      · rw [if_neg c2] at H
        have c2b0 : decide (0 < (x0_1.size : Int)) = false := decide_eq_false c2
        have c2b1 : decide (0 < x0_1.size) = false := decide_eq_false (by omega)
        clear c2
        obtain rfl := Option.some.inj H
        go_wp2
        go_ret
        exact ⟨by first | rfl | (simp; done) | (simp [*]; done) | (simp [bne_nil_]; done), by repeat (first | exact Drawn0.refl _ | apply Drawn0.step)⟩

/-! ### spec_rpmMark: function 39 -/
def spec_rpmMark.f (a0 : ByteArray) : Option (Int) := if (a0.size : Int) = 0 then (some 0) else (if 0 < (a0.size : Int) then (if (bt a0 0) = 126 then (some (-1)) else (if (bt a0 0) = 94 then (some 1) else (some 2))) else (none))
set_option maxHeartbeats 8000000 in
set_option maxRecDepth 100000 in
theorem spec_rpmMark.calls (a0 : ByteArray) (r : Int) (w : World) (h : spec_rpmMark.f a0 = some r) :
    Calls Try.prog 39 #[.string a0] w fun e w' => e = .returned (.int .i64 r) ∧ Drawn0 w w' := by
  have H : (if (a0.size : Int) = 0 then (some 0) else (if 0 < (a0.size : Int) then (if (bt a0 0) = 126 then (some (-1)) else (if (bt a0 0) = 94 then (some 1) else (some 2))) else (none))) = some r := h
  clear h
  by_cases c2 : (a0.size : Int) = 0
  · rw [if_pos c2] at H
    have c2b0 : ((a0.size : Int) == 0) = true := beq_iff_eq.mpr c2
    have c2b1 : ((a0.size : Int) != 0) = false := bne_eq_false_iff_eq.mpr c2
    clear c2
    obtain rfl := Option.some.inj H
    go_enter Try.func39, Try.ntmps39
    go_wp2
    go_ret
    exact ⟨by first | rfl | (simp; done) | (simp [*]; done) | (simp [bne_nil_]; done), by repeat (first | exact Drawn0.refl _ | apply Drawn0.step)⟩
  · rw [if_neg c2] at H
    have c2b0 : ((a0.size : Int) == 0) = false := beq_eq_false_iff_ne.mpr c2
    have c2b1 : ((a0.size : Int) != 0) = true := bne_iff_ne.mpr c2
    by_cases c3 : 0 < (a0.size : Int)
    · rw [if_pos c3] at H
      have c3b0 : decide (0 < (a0.size : Int)) = true := decide_eq_true c3
      have c3b1 : decide (0 < a0.size) = true := decide_eq_true (by omega)
      clear c3
      by_cases c5 : (bt a0 0) = 126
      · rw [if_pos c5] at H
        have c5b0 : ((bt a0 0) == 126) = true := beq_iff_eq.mpr c5
        have c5b1 : ((bt a0 0) != 126) = false := bne_eq_false_iff_eq.mpr c5
        clear c5
        obtain rfl := Option.some.inj H
        have p4 : 0 ≤ (0 : Int) := (by omega)
        have q4 : 0 < a0.size := (by have : (0 : Int) < (a0.size : Int) := of_decide_eq_true (by first | (with_reducible assumption) | assumption); omega)
        have hx4 : ∀ h : 0 < a0.size, ((a0[0]'h).toNat : Int) = bt a0 0 := bt_at a0 0
        clear p4
        have qi4 : (0 < (a0.size : Int)) = True := eq_true (of_decide_eq_true (by first | (with_reducible assumption) | assumption))
        replace q4 := eq_true q4
        go_enter Try.func39, Try.ntmps39
        go_wp2
        go_ret
        exact ⟨by first | rfl | (simp; done) | (simp [*]; done) | (simp [bne_nil_]; done), by repeat (first | exact Drawn0.refl _ | apply Drawn0.step)⟩
      · rw [if_neg c5] at H
        have c5b0 : ((bt a0 0) == 126) = false := beq_eq_false_iff_ne.mpr c5
        have c5b1 : ((bt a0 0) != 126) = true := bne_iff_ne.mpr c5
        by_cases c7 : (bt a0 0) = 94
        · rw [if_pos c7] at H
          have c7b0 : ((bt a0 0) == 94) = true := beq_iff_eq.mpr c7
          have c7b1 : ((bt a0 0) != 94) = false := bne_eq_false_iff_eq.mpr c7
          clear c7
          obtain rfl := Option.some.inj H
          have p4 : 0 ≤ (0 : Int) := (by omega)
          have q4 : 0 < a0.size := (by have : (0 : Int) < (a0.size : Int) := of_decide_eq_true (by first | (with_reducible assumption) | assumption); omega)
          have hx4 : ∀ h : 0 < a0.size, ((a0[0]'h).toNat : Int) = bt a0 0 := bt_at a0 0
          clear p4
          have qi4 : (0 < (a0.size : Int)) = True := eq_true (of_decide_eq_true (by first | (with_reducible assumption) | assumption))
          replace q4 := eq_true q4
          have p6 : 0 ≤ (0 : Int) := (by omega)
          have q6 : 0 < a0.size := (by have : (0 : Int) < (a0.size : Int) := of_decide_eq_true (by first | (with_reducible assumption) | assumption); omega)
          have hx6 : ∀ h : 0 < a0.size, ((a0[0]'h).toNat : Int) = bt a0 0 := bt_at a0 0
          clear p6
          have qi6 : (0 < (a0.size : Int)) = True := eq_true (of_decide_eq_true (by first | (with_reducible assumption) | assumption))
          replace q6 := eq_true q6
          go_enter Try.func39, Try.ntmps39
          go_wp2
          go_ret
          exact ⟨by first | rfl | (simp; done) | (simp [*]; done) | (simp [bne_nil_]; done), by repeat (first | exact Drawn0.refl _ | apply Drawn0.step)⟩
        · rw [if_neg c7] at H
          have c7b0 : ((bt a0 0) == 94) = false := beq_eq_false_iff_ne.mpr c7
          have c7b1 : ((bt a0 0) != 94) = true := bne_iff_ne.mpr c7
          obtain rfl := Option.some.inj H
          have p4 : 0 ≤ (0 : Int) := (by omega)
          have q4 : 0 < a0.size := (by have : (0 : Int) < (a0.size : Int) := of_decide_eq_true (by first | (with_reducible assumption) | assumption); omega)
          have hx4 : ∀ h : 0 < a0.size, ((a0[0]'h).toNat : Int) = bt a0 0 := bt_at a0 0
          clear p4
          have qi4 : (0 < (a0.size : Int)) = True := eq_true (of_decide_eq_true (by first | (with_reducible assumption) | assumption))
          replace q4 := eq_true q4
          have p6 : 0 ≤ (0 : Int) := (by omega)
          have q6 : 0 < a0.size := (by have : (0 : Int) < (a0.size : Int) := of_decide_eq_true (by first | (with_reducible assumption) | assumption); omega)
          have hx6 : ∀ h : 0 < a0.size, ((a0[0]'h).toNat : Int) = bt a0 0 := bt_at a0 0
          clear p6
          have qi6 : (0 < (a0.size : Int)) = True := eq_true (of_decide_eq_true (by first | (with_reducible assumption) | assumption))
          replace q6 := eq_true q6
          go_enter Try.func39, Try.ntmps39
          go_wp2
          go_ret
          exact ⟨by first | rfl | (simp; done) | (simp [*]; done) | (simp [bne_nil_]; done), by repeat (first | exact Drawn0.refl _ | apply Drawn0.step)⟩
    · rw [if_neg c3] at H
      exact absurd H (by simp)

/-! ### spec_rpmRun: function 49 -/
def spec_rpmRun.l0 : Nat → ByteArray → Bool → Int → Option (Int)
  | 0, _, _, _ => none
  | k + 1, x0, x1, x5 => if x5 < (x0.size : Int) then (if x1 = true then (if 0 ≤ x5 then ((spec_isDigit.f (bt x0 x5)).bind fun t108 => (if t108 = true then (spec_rpmRun.l0 k x0 x1 (wrap64 (x5 + 1))) else (some x5))) else (none)) else (if 0 ≤ x5 then ((spec_isLetter.f (bt x0 x5)).bind fun t109 => (if t109 = true then (spec_rpmRun.l0 k x0 x1 (wrap64 (x5 + 1))) else (some x5))) else (none))) else (some x5)
def spec_rpmRun.f (k : Nat) (a0 : ByteArray) (a1 : Bool) : Option (Int) := spec_rpmRun.l0 k a0 a1 0
theorem spec_rpmRun.mono_l : ∀ k, (∀ y0 y1 y2, LeO (spec_rpmRun.l0 k y0 y1 y2) (spec_rpmRun.l0 (k + 1) y0 y1 y2))
  | 0 => fun _ _ _ r h => by simp [spec_rpmRun.l0] at h
  | k + 1 => by
    have ih0 := spec_rpmRun.mono_l k
    · intro y0 y1 y2
      unfold spec_rpmRun.l0
      repeat' first
      | (with_reducible exact ih0 _ _ _)
      | (with_reducible exact LeO.refl _)
      | (with_reducible exact LeO.none _)
      | (with_reducible refine LeO.ite ?_ ?_)
      | (with_reducible refine LeO.bind ?_ (fun _ => ?_))
      | exact ih0 _ _ _
      | exact LeO.none _
      | refine LeO.ite ?_ ?_
      | refine LeO.bind ?_ (fun _ => ?_)
theorem spec_rpmRun.mono : ∀ a0 a1 k, LeO (spec_rpmRun.f k a0 a1) (spec_rpmRun.f (k + 1) a0 a1) := by
  intro a0 a1 k
  have ih0 := spec_rpmRun.mono_l k
  unfold spec_rpmRun.f
  repeat' first
      | (with_reducible exact ih0 _ _ _)
      | (with_reducible exact LeO.refl _)
      | (with_reducible exact LeO.none _)
      | (with_reducible refine LeO.ite ?_ ?_)
      | (with_reducible refine LeO.bind ?_ (fun _ => ?_))
      | exact ih0 _ _ _
      | exact LeO.none _
      | refine LeO.ite ?_ ?_
      | refine LeO.bind ?_ (fun _ => ?_)
set_option maxHeartbeats 8000000 in
set_option maxRecDepth 100000 in
theorem spec_rpmRun.calls (k : Nat) (a0 : ByteArray) (a1 : Bool) (r : Int) (w : World) (h : spec_rpmRun.f k a0 a1 = some r) :
    Calls Try.prog 49 #[.string a0, .bool a1] w fun e w' => e = .returned (.int .i64 r) ∧ Drawn0 w w' := by
  have H : (spec_rpmRun.l0 k a0 a1 0) = some r := h
  clear h
  have H' := Aside0.mk H
  clear H
  go_enter Try.func49, Try.ntmps49
  go_wp2
  go_loopg [5] k (fun kq v5 w' => ∃ (x5_1 : Int), v5 = .int .i64 x5_1 ∧ Aside0 (spec_rpmRun.l0 kq a0 a1 x5_1 = some r) ∧ Aside0 (kq ≤ k) ∧ Drawn0 w w')
  case atStart => exact ⟨(0), (by first | rfl | (simp; done) | (simp [*]; done) | (simp [bne_nil_]; done)), H', ⟨Nat.le_refl _⟩, by repeat (first | exact Drawn0.refl _ | apply Drawn0.step)⟩
  case round =>
    clear H'
    try clear p2
    obtain ⟨x5_1, rfl, HA, HK1, ⟨m1, rfl⟩⟩ := hrel
    cases gk with
    | zero => exact absurd HA.out (by simp [spec_rpmRun.l0])
    | succ k1 =>
      have H := HA.out
      clear HA
      simp only [spec_rpmRun.l0] at H
      by_cases c3 : x5_1 < (a0.size : Int)
      · rw [if_pos c3] at H
        have c3b0 : decide (x5_1 < (a0.size : Int)) = true := decide_eq_true c3
        clear c3
        by_cases c4 : a1 = true
        · subst c4
          have H1 : (if 0 ≤ x5_1 then ((spec_isDigit.f (bt a0 x5_1)).bind fun t108 => (if t108 = true then (spec_rpmRun.l0 k1 a0 true (wrap64 (x5_1 + 1))) else (some x5_1))) else (none)) = some r := by rw [if_pos rfl] at H; exact H
          clear H
          have H := H1
          clear H1
          by_cases c5 : 0 ≤ x5_1
          · rw [if_pos c5] at H
            have c5b0 : decide (0 ≤ x5_1) = true := decide_eq_true c5
            clear c5
            replace H := Option.bind_eq_some_iff.mp H
            obtain ⟨t108, A70, H⟩ := H
            replace H : (if t108 = true then (spec_rpmRun.l0 k1 a0 true (wrap64 (x5_1 + 1))) else (some x5_1)) = some r := H
            have A7 := Aside0.mk A70
            clear A70
            by_cases c8 : t108 = true
            · subst c8
              have H1 : (spec_rpmRun.l0 k1 a0 true (wrap64 (x5_1 + 1))) = some r := by rw [if_pos rfl] at H; exact H
              clear H
              have H := H1
              clear H1
              have H' := Aside0.mk H
              clear H
              have p6 : 0 ≤ (x5_1 : Int) := of_decide_eq_true (by first | (with_reducible assumption) | assumption)
              have q6 : x5_1 < (a0.size : Int) := of_decide_eq_true (by first | (with_reducible assumption) | assumption)
              have hx6 := bt_at a0 x5_1
              replace p6 := eq_true p6
              replace q6 := eq_true q6
              go_wp2_with (first | (go_at_call 46; (with_reducible refine (spec_isDigit.calls (bt a0 x5_1) true _ A7.out).mono ?_); rintro e w' ⟨rfl, ⟨nd, rfl⟩⟩))
              go_roundg k1
              case measure => have := HK1.out; omega
              case rel => exact ⟨(wrap64 (x5_1 + 1)), (by first | rfl | (simp; done) | (simp [*]; done) | (simp [bne_nil_]; done)), H', ⟨by have := HK1.out; omega⟩, by repeat (first | exact Drawn0.refl _ | apply Drawn0.step)⟩
            · replace c8 := Bool.eq_false_iff.mpr c8
              subst c8
              have H1 : (some x5_1) = some r := by rw [if_neg (show ¬ (false = true) by decide)] at H; exact H
              clear H
              have H := H1
              clear H1
              obtain rfl := Option.some.inj H
              have p6 : 0 ≤ (x5_1 : Int) := of_decide_eq_true (by first | (with_reducible assumption) | assumption)
              have q6 : x5_1 < (a0.size : Int) := of_decide_eq_true (by first | (with_reducible assumption) | assumption)
              have hx6 := bt_at a0 x5_1
              replace p6 := eq_true p6
              replace q6 := eq_true q6
              go_wp2_with (first | (go_at_call 46; (with_reducible refine (spec_isDigit.calls (bt a0 x5_1) false _ A7.out).mono ?_); rintro e w' ⟨rfl, ⟨nd, rfl⟩⟩))
              go_ret
              exact ⟨by first | rfl | (simp; done) | (simp [*]; done) | (simp [bne_nil_]; done), by repeat (first | exact Drawn0.refl _ | apply Drawn0.step)⟩
          · rw [if_neg c5] at H
            exact absurd H (by simp)
        · replace c4 := Bool.eq_false_iff.mpr c4
          subst c4
          have H1 : (if 0 ≤ x5_1 then ((spec_isLetter.f (bt a0 x5_1)).bind fun t109 => (if t109 = true then (spec_rpmRun.l0 k1 a0 false (wrap64 (x5_1 + 1))) else (some x5_1))) else (none)) = some r := by rw [if_neg (show ¬ (false = true) by decide)] at H; exact H
          clear H
          have H := H1
          clear H1
          by_cases c9 : 0 ≤ x5_1
          · rw [if_pos c9] at H
            have c9b0 : decide (0 ≤ x5_1) = true := decide_eq_true c9
            clear c9
            replace H := Option.bind_eq_some_iff.mp H
            obtain ⟨t109, A110, H⟩ := H
            replace H : (if t109 = true then (spec_rpmRun.l0 k1 a0 false (wrap64 (x5_1 + 1))) else (some x5_1)) = some r := H
            have A11 := Aside0.mk A110
            clear A110
            by_cases c12 : t109 = true
            · subst c12
              have H1 : (spec_rpmRun.l0 k1 a0 false (wrap64 (x5_1 + 1))) = some r := by rw [if_pos rfl] at H; exact H
              clear H
              have H := H1
              clear H1
              have H' := Aside0.mk H
              clear H
              have p10 : 0 ≤ (x5_1 : Int) := of_decide_eq_true (by first | (with_reducible assumption) | assumption)
              have q10 : x5_1 < (a0.size : Int) := of_decide_eq_true (by first | (with_reducible assumption) | assumption)
              have hx10 := bt_at a0 x5_1
              replace p10 := eq_true p10
              replace q10 := eq_true q10
              go_wp2_with (first | (go_at_call 48; (with_reducible refine (spec_isLetter.calls (bt a0 x5_1) true _ A11.out).mono ?_); rintro e w' ⟨rfl, ⟨nd, rfl⟩⟩))
              go_roundg k1
              case measure => have := HK1.out; omega
              case rel => exact ⟨(wrap64 (x5_1 + 1)), (by first | rfl | (simp; done) | (simp [*]; done) | (simp [bne_nil_]; done)), H', ⟨by have := HK1.out; omega⟩, by repeat (first | exact Drawn0.refl _ | apply Drawn0.step)⟩
            · replace c12 := Bool.eq_false_iff.mpr c12
              subst c12
              have H1 : (some x5_1) = some r := by rw [if_neg (show ¬ (false = true) by decide)] at H; exact H
              clear H
              have H := H1
              clear H1
              obtain rfl := Option.some.inj H
              have p10 : 0 ≤ (x5_1 : Int) := of_decide_eq_true (by first | (with_reducible assumption) | assumption)
              have q10 : x5_1 < (a0.size : Int) := of_decide_eq_true (by first | (with_reducible assumption) | assumption)
              have hx10 := bt_at a0 x5_1
              replace p10 := eq_true p10
              replace q10 := eq_true q10
              go_wp2_with (first | (go_at_call 48; (with_reducible refine (spec_isLetter.calls (bt a0 x5_1) false _ A11.out).mono ?_); rintro e w' ⟨rfl, ⟨nd, rfl⟩⟩))
              go_ret
              exact ⟨by first | rfl | (simp; done) | (simp [*]; done) | (simp [bne_nil_]; done), by repeat (first | exact Drawn0.refl _ | apply Drawn0.step)⟩
          · rw [if_neg c9] at H
            exact absurd H (by simp)
      · rw [if_neg c3] at H
        have c3b0 : decide (x5_1 < (a0.size : Int)) = false := decide_eq_false c3
        clear c3
        obtain rfl := Option.some.inj H
        go_wp2
        go_ret
        exact ⟨by first | rfl | (simp; done) | (simp [*]; done) | (simp [bne_nil_]; done), by repeat (first | exact Drawn0.refl _ | apply Drawn0.step)⟩

-- GIVEN: function 50 (spec_order)

end Go.Proofs.Ytojabknjniihmaa.QR
