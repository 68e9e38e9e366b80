-- Written by a working copy of the kit's print program, turned at a few places by wip/tool/mkprint.py. Lean checks it.
import Derived.Test.YtojabknjniihmaaQRx0
import Derived.Test.YtojabknjniihmaaQRx1
import Derived.Test.YtojabknjniihmaaQRx2
import Derived.Test.YtojabknjniihmaaQRx3
namespace Go.Proofs.Ytojabknjniihmaa.QR
open Go.RowKit Go.Proofs.YtojabknjniihmaaW.PrintWords Go.Proofs.YtojabknjniihmaaW.PrintLast Go.Proofs.YtojabknjniihmaaW.PrintMore
attribute [local go_sem] max2_int min2_int max_two min_two max_three min_three max_four min_four   -- for this text's walks alone
set_option linter.unusedVariables false
set_option linter.unusedSimpArgs false

/-! ### spec_rpmRuns: function 40 -/
mutual
def spec_rpmRuns.j1 : Nat → ByteArray → ByteArray → Bool → Option (Int × ByteArray × ByteArray)
  | 0, _, _, _ => none
  | k + 1, x0, x1, x7 => (spec_rpmRun.f k x0 x7).bind fun t115 => ((spec_rpmRun.f k x1 x7).bind fun t116 => (if 0 ≤ t115 then (if t115 ≤ (x0.size : Int) then (if 0 ≤ t116 then (if t116 ≤ (x1.size : Int) then ((Giv.spec_order.f (x0.extract 0 (t115 : Int).toNat) (x1.extract 0 (t116 : Int).toNat)).bind fun t117 => (if x7 = true then ((spec_orderNumbers.f k (x0.extract 0 (t115 : Int).toNat) (x1.extract 0 (t116 : Int).toNat)).bind fun t118 => (some (t118, x0.extract (t115 : Int).toNat x0.size, x1.extract (t116 : Int).toNat x1.size))) else (some (t117, x0.extract (t115 : Int).toNat x0.size, x1.extract (t116 : Int).toNat x1.size)))) else (none)) else (none)) else (none)) else (none)))
def spec_rpmRuns.j0 : Nat → ByteArray → ByteArray → Bool → Bool → Option (Int × ByteArray × ByteArray)
  | 0, _, _, _, _ => none
  | k + 1, x0, x1, x7, x13 => if x13 = true then (some (1, (⟨#[]⟩ : ByteArray), (⟨#[]⟩ : ByteArray))) else (if x7 = true then (spec_rpmRuns.j1 k x0 x1 x7) else (if 0 < (x1.size : Int) then ((spec_isDigit.f (bt x1 0)).bind fun t114 => (if t114 = true then (some ((-1), (⟨#[]⟩ : ByteArray), (⟨#[]⟩ : ByteArray))) else (spec_rpmRuns.j1 k x0 x1 x7))) else (none)))
end
def spec_rpmRuns.f (k : Nat) (a0 : ByteArray) (a1 : ByteArray) : Option (Int × ByteArray × ByteArray) := if 0 < (a0.size : Int) then ((spec_isDigit.f (bt a0 0)).bind fun t112 => (if t112 = true then (if 0 < (a1.size : Int) then ((spec_isDigit.f (bt a1 0)).bind fun t113 => (spec_rpmRuns.j0 k a0 a1 t112 (!t113))) else (none)) else (spec_rpmRuns.j0 k a0 a1 t112 false))) else (none)
theorem spec_rpmRuns.mono_l : ∀ k, (∀ y0 y1 y2, LeO (spec_rpmRuns.j1 k y0 y1 y2) (spec_rpmRuns.j1 (k + 1) y0 y1 y2)) ∧ (∀ y0 y1 y2 y3, LeO (spec_rpmRuns.j0 k y0 y1 y2 y3) (spec_rpmRuns.j0 (k + 1) y0 y1 y2 y3))
  | 0 => ⟨fun _ _ _ r h => by simp [spec_rpmRuns.j1] at h, fun _ _ _ _ r h => by simp [spec_rpmRuns.j0] at h⟩
  | k + 1 => by
    obtain ⟨ih0, ih1⟩ := spec_rpmRuns.mono_l k
    refine ⟨?_, ?_⟩
    · intro y0 y1 y2
      unfold spec_rpmRuns.j1
      repeat' first
      | (with_reducible exact ih0 _ _ _)
      | (with_reducible exact ih1 _ _ _ _)
      | (with_reducible exact spec_orderNumbers.mono _ _ _)
      | (with_reducible exact spec_rpmRun.mono _ _ _)
      | (with_reducible exact LeO.refl _)
      | (with_reducible exact LeO.none _)
      | (with_reducible refine LeO.ite ?_ ?_)
      | (with_reducible refine LeO.bind ?_ (fun _ => ?_))
      | exact ih0 _ _ _
      | exact ih1 _ _ _ _
      | exact spec_orderNumbers.mono _ _ _
      | exact spec_rpmRun.mono _ _ _
      | exact LeO.none _
      | refine LeO.ite ?_ ?_
      | refine LeO.bind ?_ (fun _ => ?_)
    · intro y0 y1 y2 y3
      unfold spec_rpmRuns.j0
      repeat' first
      | (with_reducible exact ih0 _ _ _)
      | (with_reducible exact ih1 _ _ _ _)
      | (with_reducible exact spec_orderNumbers.mono _ _ _)
      | (with_reducible exact spec_rpmRun.mono _ _ _)
      | (with_reducible exact LeO.refl _)
      | (with_reducible exact LeO.none _)
      | (with_reducible refine LeO.ite ?_ ?_)
      | (with_reducible refine LeO.bind ?_ (fun _ => ?_))
      | exact ih0 _ _ _
      | exact ih1 _ _ _ _
      | exact spec_orderNumbers.mono _ _ _
      | exact spec_rpmRun.mono _ _ _
      | exact LeO.none _
      | refine LeO.ite ?_ ?_
      | refine LeO.bind ?_ (fun _ => ?_)
theorem spec_rpmRuns.mono : ∀ a0 a1 k, LeO (spec_rpmRuns.f k a0 a1) (spec_rpmRuns.f (k + 1) a0 a1) := by
  intro a0 a1 k
  obtain ⟨ih0, ih1⟩ := spec_rpmRuns.mono_l k
  unfold spec_rpmRuns.f
  repeat' first
      | (with_reducible exact ih0 _ _ _)
      | (with_reducible exact ih1 _ _ _ _)
      | (with_reducible exact spec_orderNumbers.mono _ _ _)
      | (with_reducible exact spec_rpmRun.mono _ _ _)
      | (with_reducible exact LeO.refl _)
      | (with_reducible exact LeO.none _)
      | (with_reducible refine LeO.ite ?_ ?_)
      | (with_reducible refine LeO.bind ?_ (fun _ => ?_))
      | exact ih0 _ _ _
      | exact ih1 _ _ _ _
      | exact spec_orderNumbers.mono _ _ _
      | exact spec_rpmRun.mono _ _ _
      | exact LeO.none _
      | refine LeO.ite ?_ ?_
      | refine LeO.bind ?_ (fun _ => ?_)
set_option maxHeartbeats 8000000 in
set_option maxRecDepth 100000 in
theorem spec_rpmRuns.calls (k : Nat) (a0 : ByteArray) (a1 : ByteArray) (r1 : Int) (r2 : ByteArray) (r3 : ByteArray) (w : World) (h : spec_rpmRuns.f k a0 a1 = some (r1, r2, r3)) :
    Calls Try.prog 40 #[.string a0, .string a1] w fun e w' => e = .returned (.tuple #[.int .i64 r1, .string r2, .string r3]) ∧ Drawn0 w w' := by
  have H : (if 0 < (a0.size : Int) then ((spec_isDigit.f (bt a0 0)).bind fun t112 => (if t112 = true then (if 0 < (a1.size : Int) then ((spec_isDigit.f (bt a1 0)).bind fun t113 => (spec_rpmRuns.j0 k a0 a1 t112 (!t113))) else (none)) else (spec_rpmRuns.j0 k a0 a1 t112 false))) else (none)) = some (r1, r2, r3) := h
  clear h
  by_cases c3 : 0 < (a0.size : Int)
  · rw [if_pos c3] at H
    have c3b0 : decide (0 < (a0.size : Int)) = true := decide_eq_true c3
    have c3b1 : decide (0 < a0.size) = true := decide_eq_true (by omega)
    clear c3
    replace H := Option.bind_eq_some_iff.mp H
    obtain ⟨t112, A50, H⟩ := H
    replace H : (if t112 = true then (if 0 < (a1.size : Int) then ((spec_isDigit.f (bt a1 0)).bind fun t113 => (spec_rpmRuns.j0 k a0 a1 t112 (!t113))) else (none)) else (spec_rpmRuns.j0 k a0 a1 t112 false)) = some (r1, r2, r3) := H
    have A5 := Aside0.mk A50
    clear A50
    have HC6 := Aside0.mk H
    clear H
    have p4 : 0 ≤ (0 : Int) := (by omega)
    have q4 : 0 < a0.size := (by have : (0 : Int) < (a0.size : Int) := of_decide_eq_true (by first | (with_reducible assumption) | assumption); omega)
    have hx4 : ∀ h : 0 < a0.size, ((a0[0]'h).toNat : Int) = bt a0 0 := bt_at a0 0
    clear p4
    have qi4 : (0 < (a0.size : Int)) = True := eq_true (of_decide_eq_true (by first | (with_reducible assumption) | assumption))
    replace q4 := eq_true q4
    go_enter Try.func40, Try.ntmps40
    go_upto_block 0 with (first | (go_at_call 46; (with_reducible refine (spec_isDigit.calls (bt a0 0) t112 _ A5.out).mono ?_); rintro e w' ⟨rfl, ⟨nd, rfl⟩⟩; (try first | exact ⟨rfl, _, World.drewN_drewN _ _ _⟩ | exact ⟨rfl, _, Eq.trans (World.drewN_drewN _ _ _) (congrArg (World.drewN _) (Nat.add_assoc _ _ _))⟩)))
    repeat (go_quiet (first | (go_at_call 46; (with_reducible refine (spec_isDigit.calls (bt a0 0) t112 _ A5.out).mono ?_); rintro e w' ⟨rfl, ⟨nd, rfl⟩⟩; (try first | exact ⟨rfl, _, World.drewN_drewN _ _ _⟩ | exact ⟨rfl, _, Eq.trans (World.drewN_drewN _ _ _) (congrArg (World.drewN _) (Nat.add_assoc _ _ _))⟩))); go_upto_block 0 with (first | (go_at_call 46; (with_reducible refine (spec_isDigit.calls (bt a0 0) t112 _ A5.out).mono ?_); rintro e w' ⟨rfl, ⟨nd, rfl⟩⟩; (try first | exact ⟨rfl, _, World.drewN_drewN _ _ _⟩ | exact ⟨rfl, _, Eq.trans (World.drewN_drewN _ _ _) (congrArg (World.drewN _) (Nat.add_assoc _ _ _))⟩))))
    (try simp only [Act.put, List.setIfInBounds_toArray, List.set_cons_zero, List.set_cons_succ])
    go_cut [] (fun wc => ∃ (kq : Nat), Aside0 (spec_rpmRuns.j1 kq a0 a1 t112 = some (r1, r2, r3)) ∧ Aside0 (kq ≤ k) ∧ Drawn0 w wc)
    case first =>
      have H := HC6.out
      clear HC6
      have HC7 := Aside0.mk H
      clear H
      go_upto_region 2 with (fail)
      repeat (go_quiet (fail); go_upto_region 2 with (fail))
      go_cut [13] (fun v13 wc => ∃ (kq : Nat) (x13_6 : Bool), v13 = .bool x13_6 ∧ Aside0 (spec_rpmRuns.j0 kq a0 a1 t112 x13_6 = some (r1, r2, r3)) ∧ Aside0 (kq ≤ k) ∧ Drawn0 w wc)
      case first =>
        have H := HC7.out
        clear HC7
        by_cases c8 : t112 = true
        · subst c8
          have H1 : (if 0 < (a1.size : Int) then ((spec_isDigit.f (bt a1 0)).bind fun t113 => (spec_rpmRuns.j0 k a0 a1 true (!t113))) else (none)) = some (r1, r2, r3) := by rw [if_pos rfl] at H; exact H
          clear H
          have H := H1
          clear H1
          by_cases c9 : 0 < (a1.size : Int)
          · rw [if_pos c9] at H
            have c9b0 : decide (0 < (a1.size : Int)) = true := decide_eq_true c9
            have c9b1 : decide (0 < a1.size) = true := decide_eq_true (by omega)
            clear c9
            (first | rw [c9b0] | (simp only [i64_w, i32_w]; rw [c9b0]) | skip)
            replace H := Option.bind_eq_some_iff.mp H
            obtain ⟨t113, A110, H⟩ := H
            replace H : (spec_rpmRuns.j0 k a0 a1 true (!t113)) = some (r1, r2, r3) := H
            have A11 := Aside0.mk A110
            clear A110
            have H' := Aside0.mk H
            clear H
            have p10 : 0 ≤ (0 : Int) := (by omega)
            have q10 : 0 < a1.size := (by have : (0 : Int) < (a1.size : Int) := of_decide_eq_true (by first | (with_reducible assumption) | assumption); omega)
            have hx10 : ∀ h : 0 < a1.size, ((a1[0]'h).toNat : Int) = bt a1 0 := bt_at a1 0
            clear p10
            have qi10 : (0 < (a1.size : Int)) = True := eq_true (of_decide_eq_true (by first | (with_reducible assumption) | assumption))
            replace q10 := eq_true q10
            go_wp2_with (first | (go_at_call 46; (with_reducible refine (spec_isDigit.calls (bt a1 0) t113 _ A11.out).mono ?_); rintro e w' ⟨rfl, ⟨nd, rfl⟩⟩; (try first | exact ⟨rfl, _, World.drewN_drewN _ _ _⟩ | exact ⟨rfl, _, Eq.trans (World.drewN_drewN _ _ _) (congrArg (World.drewN _) (Nat.add_assoc _ _ _))⟩)))
            repeat (go_quiet (first | (go_at_call 46; (with_reducible refine (spec_isDigit.calls (bt a1 0) t113 _ A11.out).mono ?_); rintro e w' ⟨rfl, ⟨nd, rfl⟩⟩; (try first | exact ⟨rfl, _, World.drewN_drewN _ _ _⟩ | exact ⟨rfl, _, Eq.trans (World.drewN_drewN _ _ _) (congrArg (World.drewN _) (Nat.add_assoc _ _ _))⟩))); try go_wp2_with (first | (go_at_call 46; (with_reducible refine (spec_isDigit.calls (bt a1 0) t113 _ A11.out).mono ?_); rintro e w' ⟨rfl, ⟨nd, rfl⟩⟩; (try first | exact ⟨rfl, _, World.drewN_drewN _ _ _⟩ | exact ⟨rfl, _, Eq.trans (World.drewN_drewN _ _ _) (congrArg (World.drewN _) (Nat.add_assoc _ _ _))⟩))))
            go_meet
            case rel => exact ⟨_, (!t113), (by first | rfl | (simp; done) | (simp [*]; done) | (simp [bne_nil_]; done)), H', ⟨by first | omega | exact Nat.le_refl _⟩, by repeat (first | exact Drawn0.refl _ | apply Drawn0.step)⟩
          · rw [if_neg c9] at H
            exact absurd H (by simp)
        · replace c8 := Bool.eq_false_iff.mpr c8
          subst c8
          have H1 : (spec_rpmRuns.j0 k a0 a1 false false) = some (r1, r2, r3) := by rw [if_neg (show ¬ (false = true) by decide)] at H; exact H
          clear H
          have H := H1
          clear H1
          have H' := Aside0.mk H
          clear H
          go_wp2
          repeat (go_quiet (fail); try go_wp2)
          go_meet
          case rel => exact ⟨_, (false), (by first | rfl | (simp; done) | (simp [*]; done) | (simp [bne_nil_]; done)), H', ⟨by first | omega | exact Nat.le_refl _⟩, by repeat (first | exact Drawn0.refl _ | apply Drawn0.step)⟩
      case rest =>
        clear HC7
        try clear p1
        try clear q1
        try clear hx1
        try clear qi1
        try clear p2
        try clear c3
        try clear c3b0
        try clear c3b1
        try clear c4
        try clear p4
        try clear q4
        try clear hx4
        try clear qi4
        try clear c8
        try clear c9
        try clear c9b0
        try clear c9b1
        try clear p10
        try clear q10
        try clear hx10
        try clear qi10
        try clear p10
        try clear p4
        try clear q10
        try clear q4
        obtain ⟨kq, x13_6, rfl, HA, HJ6, ⟨mc6, rfl⟩⟩ := hcut
        cases kq with
        | zero => exact absurd HA.out (by simp [spec_rpmRuns.j0])
        | succ kj6 =>
          have H := HA.out
          clear HA
          simp only [spec_rpmRuns.j0] at H
          by_cases c12 : x13_6 = true
          · subst c12
            have H1 : (some (1, (⟨#[]⟩ : ByteArray), (⟨#[]⟩ : ByteArray))) = some (r1, r2, r3) := by rw [if_pos rfl] at H; exact H
            clear H
            have H := H1
            clear H1
            simp only [Option.some.injEq, Prod.mk.injEq] at H
            obtain ⟨rfl, rfl, rfl⟩ := H
            go_wp2
            repeat (go_quiet (fail); try go_wp2)
            go_ret3
            exact ⟨by first | rfl | (simp; done) | (simp [*]; done) | (simp [bne_nil_]; done), by repeat (first | exact Drawn0.refl _ | apply Drawn0.step)⟩
          · replace c12 := Bool.eq_false_iff.mpr c12
            subst c12
            have H1 : (if t112 = true then (spec_rpmRuns.j1 kj6 a0 a1 t112) else (if 0 < (a1.size : Int) then ((spec_isDigit.f (bt a1 0)).bind fun t114 => (if t114 = true then (some ((-1), (⟨#[]⟩ : ByteArray), (⟨#[]⟩ : ByteArray))) else (spec_rpmRuns.j1 kj6 a0 a1 t112))) else (none))) = some (r1, r2, r3) := by rw [if_neg (show ¬ (false = true) by decide)] at H; exact H
            clear H
            have H := H1
            clear H1
            by_cases c13 : t112 = true
            · subst c13
              have H1 : (spec_rpmRuns.j1 kj6 a0 a1 true) = some (r1, r2, r3) := by rw [if_pos rfl] at H; exact H
              clear H
              have H := H1
              clear H1
              have H' := Aside0.mk H
              clear H
              go_wp2
              repeat (go_quiet (fail); try go_wp2)
              go_meet
              case rel => exact ⟨_, H', ⟨by have := HJ6.out; first | omega | exact Nat.le_refl _⟩, by repeat (first | exact Drawn0.refl _ | apply Drawn0.step)⟩
            · replace c13 := Bool.eq_false_iff.mpr c13
              subst c13
              have H1 : (if 0 < (a1.size : Int) then ((spec_isDigit.f (bt a1 0)).bind fun t114 => (if t114 = true then (some ((-1), (⟨#[]⟩ : ByteArray), (⟨#[]⟩ : ByteArray))) else (spec_rpmRuns.j1 kj6 a0 a1 false))) else (none)) = some (r1, r2, r3) := by rw [if_neg (show ¬ (false = true) by decide)] at H; exact H
              clear H
              have H := H1
              clear H1
              by_cases c14 : 0 < (a1.size : Int)
              · rw [if_pos c14] at H
                have c14b0 : decide (0 < (a1.size : Int)) = true := decide_eq_true c14
                have c14b1 : decide (0 < a1.size) = true := decide_eq_true (by omega)
                clear c14
                replace H := Option.bind_eq_some_iff.mp H
                obtain ⟨t114, A160, H⟩ := H
                replace H : (if t114 = true then (some ((-1), (⟨#[]⟩ : ByteArray), (⟨#[]⟩ : ByteArray))) else (spec_rpmRuns.j1 kj6 a0 a1 false)) = some (r1, r2, r3) := H
                have A16 := Aside0.mk A160
                clear A160
                by_cases c17 : t114 = true
                · subst c17
                  have H1 : (some ((-1), (⟨#[]⟩ : ByteArray), (⟨#[]⟩ : ByteArray))) = some (r1, r2, r3) := by rw [if_pos rfl] at H; exact H
                  clear H
                  have H := H1
                  clear H1
                  simp only [Option.some.injEq, Prod.mk.injEq] at H
                  obtain ⟨rfl, rfl, rfl⟩ := H
                  have p15 : 0 ≤ (0 : Int) := (by omega)
                  have q15 : 0 < a1.size := (by have : (0 : Int) < (a1.size : Int) := of_decide_eq_true (by first | (with_reducible assumption) | assumption); omega)
                  have hx15 : ∀ h : 0 < a1.size, ((a1[0]'h).toNat : Int) = bt a1 0 := bt_at a1 0
                  clear p15
                  have qi15 : (0 < (a1.size : Int)) = True := eq_true (of_decide_eq_true (by first | (with_reducible assumption) | assumption))
                  replace q15 := eq_true q15
                  go_wp2_with (first | (go_at_call 46; (with_reducible refine (spec_isDigit.calls (bt a1 0) true _ A16.out).mono ?_); rintro e w' ⟨rfl, ⟨nd, rfl⟩⟩; (try first | exact ⟨rfl, _, World.drewN_drewN _ _ _⟩ | exact ⟨rfl, _, Eq.trans (World.drewN_drewN _ _ _) (congrArg (World.drewN _) (Nat.add_assoc _ _ _))⟩)))
                  repeat (go_quiet (first | (go_at_call 46; (with_reducible refine (spec_isDigit.calls (bt a1 0) true _ A16.out).mono ?_); rintro e w' ⟨rfl, ⟨nd, rfl⟩⟩; (try first | exact ⟨rfl, _, World.drewN_drewN _ _ _⟩ | exact ⟨rfl, _, Eq.trans (World.drewN_drewN _ _ _) (congrArg (World.drewN _) (Nat.add_assoc _ _ _))⟩))); try go_wp2_with (first | (go_at_call 46; (with_reducible refine (spec_isDigit.calls (bt a1 0) true _ A16.out).mono ?_); rintro e w' ⟨rfl, ⟨nd, rfl⟩⟩; (try first | exact ⟨rfl, _, World.drewN_drewN _ _ _⟩ | exact ⟨rfl, _, Eq.trans (World.drewN_drewN _ _ _) (congrArg (World.drewN _) (Nat.add_assoc _ _ _))⟩))))
                  go_ret3
                  exact ⟨by first | rfl | (simp; done) | (simp [*]; done) | (simp [bne_nil_]; done), by repeat (first | exact Drawn0.refl _ | apply Drawn0.step)⟩
                · replace c17 := Bool.eq_false_iff.mpr c17
                  subst c17
                  have H1 : (spec_rpmRuns.j1 kj6 a0 a1 false) = some (r1, r2, r3) := by rw [if_neg (show ¬ (false = true) by decide)] at H; exact H
                  clear H
                  have H := H1
                  clear H1
                  have H' := Aside0.mk H
                  clear H
                  have p15 : 0 ≤ (0 : Int) := (by omega)
                  have q15 : 0 < a1.size := (by have : (0 : Int) < (a1.size : Int) := of_decide_eq_true (by first | (with_reducible assumption) | assumption); omega)
                  have hx15 : ∀ h : 0 < a1.size, ((a1[0]'h).toNat : Int) = bt a1 0 := bt_at a1 0
                  clear p15
                  have qi15 : (0 < (a1.size : Int)) = True := eq_true (of_decide_eq_true (by first | (with_reducible assumption) | assumption))
                  replace q15 := eq_true q15
                  go_wp2_with (first | (go_at_call 46; (with_reducible refine (spec_isDigit.calls (bt a1 0) false _ A16.out).mono ?_); rintro e w' ⟨rfl, ⟨nd, rfl⟩⟩; (try first | exact ⟨rfl, _, World.drewN_drewN _ _ _⟩ | exact ⟨rfl, _, Eq.trans (World.drewN_drewN _ _ _) (congrArg (World.drewN _) (Nat.add_assoc _ _ _))⟩)))
                  repeat (go_quiet (first | (go_at_call 46; (with_reducible refine (spec_isDigit.calls (bt a1 0) false _ A16.out).mono ?_); rintro e w' ⟨rfl, ⟨nd, rfl⟩⟩; (try first | exact ⟨rfl, _, World.drewN_drewN _ _ _⟩ | exact ⟨rfl, _, Eq.trans (World.drewN_drewN _ _ _) (congrArg (World.drewN _) (Nat.add_assoc _ _ _))⟩))); try go_wp2_with (first | (go_at_call 46; (with_reducible refine (spec_isDigit.calls (bt a1 0) false _ A16.out).mono ?_); rintro e w' ⟨rfl, ⟨nd, rfl⟩⟩; (try first | exact ⟨rfl, _, World.drewN_drewN _ _ _⟩ | exact ⟨rfl, _, Eq.trans (World.drewN_drewN _ _ _) (congrArg (World.drewN _) (Nat.add_assoc _ _ _))⟩))))
                  go_meet
                  case rel => exact ⟨_, H', ⟨by have := HJ6.out; first | omega | exact Nat.le_refl _⟩, by repeat (first | exact Drawn0.refl _ | apply Drawn0.step)⟩
              · rw [if_neg c14] at H
                exact absurd H (by simp)
    case rest =>
      clear HC6
      try clear c1
      try clear p1
      try clear q1
      try clear hx1
      try clear qi1
      try clear p2
      try clear c3
      try clear c3b0
      try clear c3b1
      try clear c4
      try clear p4
      try clear q4
      try clear hx4
      try clear qi4
      try clear c6
      try clear c8
      try clear c9
      try clear c9b0
      try clear c9b1
      try clear p10
      try clear q10
      try clear hx10
      try clear qi10
      try clear c12
      try clear c13
      try clear c14
      try clear c14b0
      try clear c14b1
      try clear p15
      try clear q15
      try clear hx15
      try clear qi15
      try clear c17
      try clear p1
      try clear p10
      try clear p15
      try clear p2
      try clear p4
      try clear q1
      try clear q10
      try clear q15
      try clear q4
      obtain ⟨kq, HA, HJ5, ⟨mc5, rfl⟩⟩ := hcut
      cases kq with
      | zero => exact absurd HA.out (by simp [spec_rpmRuns.j1])
      | succ kj5 =>
        have H := HA.out
        clear HA
        simp only [spec_rpmRuns.j1] at H
        replace H := Option.bind_eq_some_iff.mp H
        obtain ⟨t115, A180, H⟩ := H
        replace H : ((spec_rpmRun.f kj5 a1 t112).bind fun t116 => (if 0 ≤ t115 then (if t115 ≤ (a0.size : Int) then (if 0 ≤ t116 then (if t116 ≤ (a1.size : Int) then ((Giv.spec_order.f (a0.extract 0 (t115 : Int).toNat) (a1.extract 0 (t116 : Int).toNat)).bind fun t117 => (if t112 = true then ((spec_orderNumbers.f kj5 (a0.extract 0 (t115 : Int).toNat) (a1.extract 0 (t116 : Int).toNat)).bind fun t118 => (some (t118, a0.extract (t115 : Int).toNat a0.size, a1.extract (t116 : Int).toNat a1.size))) else (some (t117, a0.extract (t115 : Int).toNat a0.size, a1.extract (t116 : Int).toNat a1.size)))) else (none)) else (none)) else (none)) else (none))) = some (r1, r2, r3) := H
        have A18 := Aside0.mk A180
        clear A180
        replace H := Option.bind_eq_some_iff.mp H
        obtain ⟨t116, A190, H⟩ := H
        replace H : (if 0 ≤ t115 then (if t115 ≤ (a0.size : Int) then (if 0 ≤ t116 then (if t116 ≤ (a1.size : Int) then ((Giv.spec_order.f (a0.extract 0 (t115 : Int).toNat) (a1.extract 0 (t116 : Int).toNat)).bind fun t117 => (if t112 = true then ((spec_orderNumbers.f kj5 (a0.extract 0 (t115 : Int).toNat) (a1.extract 0 (t116 : Int).toNat)).bind fun t118 => (some (t118, a0.extract (t115 : Int).toNat a0.size, a1.extract (t116 : Int).toNat a1.size))) else (some (t117, a0.extract (t115 : Int).toNat a0.size, a1.extract (t116 : Int).toNat a1.size)))) else (none)) else (none)) else (none)) else (none)) = some (r1, r2, r3) := H
        have A19 := Aside0.mk A190
        clear A190
        by_cases c20 : 0 ≤ t115
        · rw [if_pos c20] at H
          have c20b0 := eq_true c20
          have c20b1 : decide (0 ≤ t115) = true := decide_eq_true c20
          clear c20
          by_cases c21 : t115 ≤ (a0.size : Int)
          · rw [if_pos c21] at H
            have c21b0 := eq_true c21
            have c21b1 : decide (t115 ≤ (a0.size : Int)) = true := decide_eq_true c21
            clear c21
            by_cases c22 : 0 ≤ t116
            · rw [if_pos c22] at H
              have c22b0 := eq_true c22
              have c22b1 : decide (0 ≤ t116) = true := decide_eq_true c22
              clear c22
              by_cases c23 : t116 ≤ (a1.size : Int)
              · rw [if_pos c23] at H
                have c23b0 := eq_true c23
                have c23b1 : decide (t116 ≤ (a1.size : Int)) = true := decide_eq_true c23
                clear c23
                replace H := Option.bind_eq_some_iff.mp H
                obtain ⟨t117, A240, H⟩ := H
                replace H : (if t112 = true then ((spec_orderNumbers.f kj5 (a0.extract 0 (t115 : Int).toNat) (a1.extract 0 (t116 : Int).toNat)).bind fun t118 => (some (t118, a0.extract (t115 : Int).toNat a0.size, a1.extract (t116 : Int).toNat a1.size))) else (some (t117, a0.extract (t115 : Int).toNat a0.size, a1.extract (t116 : Int).toNat a1.size))) = some (r1, r2, r3) := H
                have A24 := Aside0.mk A240
                clear A240
                by_cases c25 : t112 = true
                · subst c25
                  have H1 : ((spec_orderNumbers.f kj5 (a0.extract 0 (t115 : Int).toNat) (a1.extract 0 (t116 : Int).toNat)).bind fun t118 => (some (t118, a0.extract (t115 : Int).toNat a0.size, a1.extract (t116 : Int).toNat a1.size))) = some (r1, r2, r3) := by rw [if_pos rfl] at H; exact H
                  clear H
                  have H := H1
                  clear H1
                  have c26b0 := eq_true (of_decide_eq_true (by first | (with_reducible assumption) | assumption) : 0 ≤ t115)
                  have c27b0 := eq_true (of_decide_eq_true (by first | (with_reducible assumption) | assumption) : t115 ≤ (a0.size : Int))
                  have c28b0 := eq_true (of_decide_eq_true (by first | (with_reducible assumption) | assumption) : 0 ≤ t116)
                  have c29b0 := eq_true (of_decide_eq_true (by first | (with_reducible assumption) | assumption) : t116 ≤ (a1.size : Int))
                  replace H := Option.bind_eq_some_iff.mp H
                  obtain ⟨t118, A300, H⟩ := H
                  replace H : (some (t118, a0.extract (t115 : Int).toNat a0.size, a1.extract (t116 : Int).toNat a1.size)) = some (r1, r2, r3) := H
                  have A30 := Aside0.mk A300
                  clear A300
                  have c31b0 := eq_true (of_decide_eq_true (by first | (with_reducible assumption) | assumption) : 0 ≤ t115)
                  have c32b0 := eq_true (of_decide_eq_true (by first | (with_reducible assumption) | assumption) : t115 ≤ (a0.size : Int))
                  have c33b0 := eq_true (of_decide_eq_true (by first | (with_reducible assumption) | assumption) : 0 ≤ t116)
                  have c34b0 := eq_true (of_decide_eq_true (by first | (with_reducible assumption) | assumption) : t116 ≤ (a1.size : Int))
                  simp only [Option.some.injEq, Prod.mk.injEq] at H
                  obtain ⟨rfl, rfl, rfl⟩ := H
                  go_wp2_with (first | (go_at_call 49; (with_reducible refine (spec_rpmRun.calls kj5 a0 true t115 _ A18.out).mono ?_); rintro e w' ⟨rfl, ⟨nd, rfl⟩⟩; (try first | exact ⟨rfl, _, World.drewN_drewN _ _ _⟩ | exact ⟨rfl, _, Eq.trans (World.drewN_drewN _ _ _) (congrArg (World.drewN _) (Nat.add_assoc _ _ _))⟩)) | (go_at_call 49; (with_reducible refine (spec_rpmRun.calls kj5 a1 true t116 _ A19.out).mono ?_); rintro e w' ⟨rfl, ⟨nd, rfl⟩⟩; (try first | exact ⟨rfl, _, World.drewN_drewN _ _ _⟩ | exact ⟨rfl, _, Eq.trans (World.drewN_drewN _ _ _) (congrArg (World.drewN _) (Nat.add_assoc _ _ _))⟩)) | (go_at_call 50; (with_reducible refine (Giv.spec_order.calls (a0.extract 0 (t115 : Int).toNat) (a1.extract 0 (t116 : Int).toNat) t117 _ A24.out).mono ?_); rintro e w' ⟨rfl, ⟨nd, rfl⟩⟩; (try first | exact ⟨rfl, _, World.drewN_drewN _ _ _⟩ | exact ⟨rfl, _, Eq.trans (World.drewN_drewN _ _ _) (congrArg (World.drewN _) (Nat.add_assoc _ _ _))⟩)) | (go_at_call 51; (with_reducible refine (spec_orderNumbers.calls kj5 (a0.extract 0 (t115 : Int).toNat) (a1.extract 0 (t116 : Int).toNat) t118 _ A30.out).mono ?_); rintro e w' ⟨rfl, ⟨nd, rfl⟩⟩; (try first | exact ⟨rfl, _, World.drewN_drewN _ _ _⟩ | exact ⟨rfl, _, Eq.trans (World.drewN_drewN _ _ _) (congrArg (World.drewN _) (Nat.add_assoc _ _ _))⟩)))
                  repeat (go_quiet (first | (go_at_call 49; (with_reducible refine (spec_rpmRun.calls kj5 a0 true t115 _ A18.out).mono ?_); rintro e w' ⟨rfl, ⟨nd, rfl⟩⟩; (try first | exact ⟨rfl, _, World.drewN_drewN _ _ _⟩ | exact ⟨rfl, _, Eq.trans (World.drewN_drewN _ _ _) (congrArg (World.drewN _) (Nat.add_assoc _ _ _))⟩)) | (go_at_call 49; (with_reducible refine (spec_rpmRun.calls kj5 a1 true t116 _ A19.out).mono ?_); rintro e w' ⟨rfl, ⟨nd, rfl⟩⟩; (try first | exact ⟨rfl, _, World.drewN_drewN _ _ _⟩ | exact ⟨rfl, _, Eq.trans (World.drewN_drewN _ _ _) (congrArg (World.drewN _) (Nat.add_assoc _ _ _))⟩)) | (go_at_call 50; (with_reducible refine (Giv.spec_order.calls (a0.extract 0 (t115 : Int).toNat) (a1.extract 0 (t116 : Int).toNat) t117 _ A24.out).mono ?_); rintro e w' ⟨rfl, ⟨nd, rfl⟩⟩; (try first | exact ⟨rfl, _, World.drewN_drewN _ _ _⟩ | exact ⟨rfl, _, Eq.trans (World.drewN_drewN _ _ _) (congrArg (World.drewN _) (Nat.add_assoc _ _ _))⟩)) | (go_at_call 51; (with_reducible refine (spec_orderNumbers.calls kj5 (a0.extract 0 (t115 : Int).toNat) (a1.extract 0 (t116 : Int).toNat) t118 _ A30.out).mono ?_); rintro e w' ⟨rfl, ⟨nd, rfl⟩⟩; (try first | exact ⟨rfl, _, World.drewN_drewN _ _ _⟩ | exact ⟨rfl, _, Eq.trans (World.drewN_drewN _ _ _) (congrArg (World.drewN _) (Nat.add_assoc _ _ _))⟩))); try go_wp2_with (first | (go_at_call 49; (with_reducible refine (spec_rpmRun.calls kj5 a0 true t115 _ A18.out).mono ?_); rintro e w' ⟨rfl, ⟨nd, rfl⟩⟩; (try first | exact ⟨rfl, _, World.drewN_drewN _ _ _⟩ | exact ⟨rfl, _, Eq.trans (World.drewN_drewN _ _ _) (congrArg (World.drewN _) (Nat.add_assoc _ _ _))⟩)) | (go_at_call 49; (with_reducible refine (spec_rpmRun.calls kj5 a1 true t116 _ A19.out).mono ?_); rintro e w' ⟨rfl, ⟨nd, rfl⟩⟩; (try first | exact ⟨rfl, _, World.drewN_drewN _ _ _⟩ | exact ⟨rfl, _, Eq.trans (World.drewN_drewN _ _ _) (congrArg (World.drewN _) (Nat.add_assoc _ _ _))⟩)) | (go_at_call 50; (with_reducible refine (Giv.spec_order.calls (a0.extract 0 (t115 : Int).toNat) (a1.extract 0 (t116 : Int).toNat) t117 _ A24.out).mono ?_); rintro e w' ⟨rfl, ⟨nd, rfl⟩⟩; (try first | exact ⟨rfl, _, World.drewN_drewN _ _ _⟩ | exact ⟨rfl, _, Eq.trans (World.drewN_drewN _ _ _) (congrArg (World.drewN _) (Nat.add_assoc _ _ _))⟩)) | (go_at_call 51; (with_reducible refine (spec_orderNumbers.calls kj5 (a0.extract 0 (t115 : Int).toNat) (a1.extract 0 (t116 : Int).toNat) t118 _ A30.out).mono ?_); rintro e w' ⟨rfl, ⟨nd, rfl⟩⟩; (try first | exact ⟨rfl, _, World.drewN_drewN _ _ _⟩ | exact ⟨rfl, _, Eq.trans (World.drewN_drewN _ _ _) (congrArg (World.drewN _) (Nat.add_assoc _ _ _))⟩))))
                  go_ret3
                  exact ⟨by first | rfl | (simp; done) | (simp [*]; done) | (simp [bne_nil_]; done), by repeat (first | exact Drawn0.refl _ | apply Drawn0.step)⟩
                · replace c25 := Bool.eq_false_iff.mpr c25
                  subst c25
                  have H1 : (some (t117, a0.extract (t115 : Int).toNat a0.size, a1.extract (t116 : Int).toNat a1.size)) = some (r1, r2, r3) := by rw [if_neg (show ¬ (false = true) by decide)] at H; exact H
                  clear H
                  have H := H1
                  clear H1
                  have c35b0 := eq_true (of_decide_eq_true (by first | (with_reducible assumption) | assumption) : 0 ≤ t115)
                  have c36b0 := eq_true (of_decide_eq_true (by first | (with_reducible assumption) | assumption) : t115 ≤ (a0.size : Int))
                  have c37b0 := eq_true (of_decide_eq_true (by first | (with_reducible assumption) | assumption) : 0 ≤ t116)
                  have c38b0 := eq_true (of_decide_eq_true (by first | (with_reducible assumption) | assumption) : t116 ≤ (a1.size : Int))
                  simp only [Option.some.injEq, Prod.mk.injEq] at H
                  obtain ⟨rfl, rfl, rfl⟩ := H
                  go_wp2_with (first | (go_at_call 49; (with_reducible refine (spec_rpmRun.calls kj5 a0 false t115 _ A18.out).mono ?_); rintro e w' ⟨rfl, ⟨nd, rfl⟩⟩; (try first | exact ⟨rfl, _, World.drewN_drewN _ _ _⟩ | exact ⟨rfl, _, Eq.trans (World.drewN_drewN _ _ _) (congrArg (World.drewN _) (Nat.add_assoc _ _ _))⟩)) | (go_at_call 49; (with_reducible refine (spec_rpmRun.calls kj5 a1 false t116 _ A19.out).mono ?_); rintro e w' ⟨rfl, ⟨nd, rfl⟩⟩; (try first | exact ⟨rfl, _, World.drewN_drewN _ _ _⟩ | exact ⟨rfl, _, Eq.trans (World.drewN_drewN _ _ _) (congrArg (World.drewN _) (Nat.add_assoc _ _ _))⟩)) | (go_at_call 50; (with_reducible refine (Giv.spec_order.calls (a0.extract 0 (t115 : Int).toNat) (a1.extract 0 (t116 : Int).toNat) t117 _ A24.out).mono ?_); rintro e w' ⟨rfl, ⟨nd, rfl⟩⟩; (try first | exact ⟨rfl, _, World.drewN_drewN _ _ _⟩ | exact ⟨rfl, _, Eq.trans (World.drewN_drewN _ _ _) (congrArg (World.drewN _) (Nat.add_assoc _ _ _))⟩)))
                  repeat (go_quiet (first | (go_at_call 49; (with_reducible refine (spec_rpmRun.calls kj5 a0 false t115 _ A18.out).mono ?_); rintro e w' ⟨rfl, ⟨nd, rfl⟩⟩; (try first | exact ⟨rfl, _, World.drewN_drewN _ _ _⟩ | exact ⟨rfl, _, Eq.trans (World.drewN_drewN _ _ _) (congrArg (World.drewN _) (Nat.add_assoc _ _ _))⟩)) | (go_at_call 49; (with_reducible refine (spec_rpmRun.calls kj5 a1 false t116 _ A19.out).mono ?_); rintro e w' ⟨rfl, ⟨nd, rfl⟩⟩; (try first | exact ⟨rfl, _, World.drewN_drewN _ _ _⟩ | exact ⟨rfl, _, Eq.trans (World.drewN_drewN _ _ _) (congrArg (World.drewN _) (Nat.add_assoc _ _ _))⟩)) | (go_at_call 50; (with_reducible refine (Giv.spec_order.calls (a0.extract 0 (t115 : Int).toNat) (a1.extract 0 (t116 : Int).toNat) t117 _ A24.out).mono ?_); rintro e w' ⟨rfl, ⟨nd, rfl⟩⟩; (try first | exact ⟨rfl, _, World.drewN_drewN _ _ _⟩ | exact ⟨rfl, _, Eq.trans (World.drewN_drewN _ _ _) (congrArg (World.drewN _) (Nat.add_assoc _ _ _))⟩))); try go_wp2_with (first | (go_at_call 49; (with_reducible refine (spec_rpmRun.calls kj5 a0 false t115 _ A18.out).mono ?_); rintro e w' ⟨rfl, ⟨nd, rfl⟩⟩; (try first | exact ⟨rfl, _, World.drewN_drewN _ _ _⟩ | exact ⟨rfl, _, Eq.trans (World.drewN_drewN _ _ _) (congrArg (World.drewN _) (Nat.add_assoc _ _ _))⟩)) | (go_at_call 49; (with_reducible refine (spec_rpmRun.calls kj5 a1 false t116 _ A19.out).mono ?_); rintro e w' ⟨rfl, ⟨nd, rfl⟩⟩; (try first | exact ⟨rfl, _, World.drewN_drewN _ _ _⟩ | exact ⟨rfl, _, Eq.trans (World.drewN_drewN _ _ _) (congrArg (World.drewN _) (Nat.add_assoc _ _ _))⟩)) | (go_at_call 50; (with_reducible refine (Giv.spec_order.calls (a0.extract 0 (t115 : Int).toNat) (a1.extract 0 (t116 : Int).toNat) t117 _ A24.out).mono ?_); rintro e w' ⟨rfl, ⟨nd, rfl⟩⟩; (try first | exact ⟨rfl, _, World.drewN_drewN _ _ _⟩ | exact ⟨rfl, _, Eq.trans (World.drewN_drewN _ _ _) (congrArg (World.drewN _) (Nat.add_assoc _ _ _))⟩))))
                  go_ret3
                  exact ⟨by first | rfl | (simp; done) | (simp [*]; done) | (simp [bne_nil_]; done), by repeat (first | exact Drawn0.refl _ | apply Drawn0.step)⟩
              · rw [if_neg c23] at H
                exact absurd H (by simp)
            · rw [if_neg c22] at H
              exact absurd H (by simp)
          · rw [if_neg c21] at H
            exact absurd H (by simp)
        · rw [if_neg c20] at H
          exact absurd H (by simp)
  · rw [if_neg c3] at H
    exact absurd H (by simp)

end Go.Proofs.Ytojabknjniihmaa.QR
