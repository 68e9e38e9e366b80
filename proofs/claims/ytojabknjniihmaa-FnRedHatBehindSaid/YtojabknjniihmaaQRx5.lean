-- Written by a working copy of the kit's print program, turned at a few places by wip/tool/mkprint.py. Lean checks it.
import Derived.Test.YtojabknjniihmaaQRx0
import Derived.Test.YtojabknjniihmaaQRx1
import Derived.Test.YtojabknjniihmaaQRx2
import Derived.Test.YtojabknjniihmaaQRx4
namespace Go.Proofs.Ytojabknjniihmaa.QR
open Go.RowKit Go.Proofs.YtojabknjniihmaaW.PrintWords Go.Proofs.YtojabknjniihmaaW.PrintLast Go.Proofs.YtojabknjniihmaaW.PrintMore
attribute [local go_sem] max2_int min2_int max_two min_two max_three min_three max_four min_four   -- for this text's walks alone
set_option linter.unusedVariables false
set_option linter.unusedSimpArgs false

/-! ### spec_RedHatParts: function 24 -/
mutual
def spec_RedHatParts.j0 : Nat → ByteArray → ByteArray → Bool → Option (Int)
  | 0, _, _, _ => none
  | k + 1, x0, x1, x12 => if x12 = true then ((spec_orderInts.f (x0.size : Int) (x1.size : Int)).bind fun t119 => (some t119)) else (spec_RedHatParts.l0 k x0 x1)
def spec_RedHatParts.l0 : Nat → ByteArray → ByteArray → Option (Int)
  | 0, _, _ => none
  | k + 1, x0, x1 => (spec_rpmSkip.f k x0).bind fun t120 => ((spec_rpmSkip.f k x1).bind fun t121 => ((spec_rpmMark.f t120).bind fun t122 => ((spec_rpmMark.f t121).bind fun t123 => ((spec_orderInts.f t122 t123).bind fun t124 => (if t124 = 0 then (spec_RedHatParts.j2 k t120 t121 t122 t124 (t122 == 0)) else (spec_RedHatParts.j2 k t120 t121 t122 t124 true))))))
def spec_RedHatParts.j2 : Nat → ByteArray → ByteArray → Int → Int → Bool → Option (Int)
  | 0, _, _, _, _, _ => none
  | k + 1, x0, x1, x5, x6, x38 => if x38 = true then (some x6) else (if x5 < 2 then (if 1 ≤ (x0.size : Int) then (if 1 ≤ (x1.size : Int) then (spec_RedHatParts.l0 k (x0.extract 1 x0.size) (x1.extract 1 x1.size)) else (none)) else (none)) else ((spec_rpmRuns.f k x0 x1).bind fun bt125 => (if bt125.1 = 0 then (spec_RedHatParts.l0 k bt125.2.1 bt125.2.2) else (some bt125.1))))
end
def spec_RedHatParts.f (k : Nat) (a0 : ByteArray) (a1 : ByteArray) : Option (Int) := if a0.toList = ([] : List UInt8) then (spec_RedHatParts.j0 k a0 a1 true) else (spec_RedHatParts.j0 k a0 a1 (a1.toList == ([] : List UInt8)))
theorem spec_RedHatParts.mono_l : ∀ k, (∀ y0 y1 y2, LeO (spec_RedHatParts.j0 k y0 y1 y2) (spec_RedHatParts.j0 (k + 1) y0 y1 y2)) ∧ (∀ y0 y1, LeO (spec_RedHatParts.l0 k y0 y1) (spec_RedHatParts.l0 (k + 1) y0 y1)) ∧ (∀ y0 y1 y2 y3 y4, LeO (spec_RedHatParts.j2 k y0 y1 y2 y3 y4) (spec_RedHatParts.j2 (k + 1) y0 y1 y2 y3 y4))
  | 0 => ⟨fun _ _ _ r h => by simp [spec_RedHatParts.j0] at h, fun _ _ r h => by simp [spec_RedHatParts.l0] at h, fun _ _ _ _ _ r h => by simp [spec_RedHatParts.j2] at h⟩
  | k + 1 => by
    obtain ⟨ih0, ih1, ih2⟩ := spec_RedHatParts.mono_l k
    refine ⟨?_, ?_, ?_⟩
    · intro y0 y1 y2
      unfold spec_RedHatParts.j0
      repeat' first
      | (with_reducible exact ih0 _ _ _)
      | (with_reducible exact ih1 _ _)
      | (with_reducible exact ih2 _ _ _ _ _)
      | (with_reducible exact spec_rpmRuns.mono _ _ _)
      | (with_reducible exact spec_rpmSkip.mono _ _)
      | (with_reducible exact LeO.refl _)
      | (with_reducible exact LeO.none _)
      | (with_reducible refine LeO.ite ?_ ?_)
      | (with_reducible refine LeO.bind ?_ (fun _ => ?_))
      | exact ih0 _ _ _
      | exact ih1 _ _
      | exact ih2 _ _ _ _ _
      | exact spec_rpmRuns.mono _ _ _
      | exact spec_rpmSkip.mono _ _
      | exact LeO.none _
      | refine LeO.ite ?_ ?_
      | refine LeO.bind ?_ (fun _ => ?_)
    · intro y0 y1
      unfold spec_RedHatParts.l0
      repeat' first
      | (with_reducible exact ih0 _ _ _)
      | (with_reducible exact ih1 _ _)
      | (with_reducible exact ih2 _ _ _ _ _)
      | (with_reducible exact spec_rpmRuns.mono _ _ _)
      | (with_reducible exact spec_rpmSkip.mono _ _)
      | (with_reducible exact LeO.refl _)
      | (with_reducible exact LeO.none _)
      | (with_reducible refine LeO.ite ?_ ?_)
      | (with_reducible refine LeO.bind ?_ (fun _ => ?_))
      | exact ih0 _ _ _
      | exact ih1 _ _
      | exact ih2 _ _ _ _ _
      | exact spec_rpmRuns.mono _ _ _
      | exact spec_rpmSkip.mono _ _
      | exact LeO.none _
      | refine LeO.ite ?_ ?_
      | refine LeO.bind ?_ (fun _ => ?_)
    · intro y0 y1 y2 y3 y4
      unfold spec_RedHatParts.j2
      repeat' first
      | (with_reducible exact ih0 _ _ _)
      | (with_reducible exact ih1 _ _)
      | (with_reducible exact ih2 _ _ _ _ _)
      | (with_reducible exact spec_rpmRuns.mono _ _ _)
      | (with_reducible exact spec_rpmSkip.mono _ _)
      | (with_reducible exact LeO.refl _)
      | (with_reducible exact LeO.none _)
      | (with_reducible refine LeO.ite ?_ ?_)
      | (with_reducible refine LeO.bind ?_ (fun _ => ?_))
      | exact ih0 _ _ _
      | exact ih1 _ _
      | exact ih2 _ _ _ _ _
      | exact spec_rpmRuns.mono _ _ _
      | exact spec_rpmSkip.mono _ _
      | exact LeO.none _
      | refine LeO.ite ?_ ?_
      | refine LeO.bind ?_ (fun _ => ?_)
theorem spec_RedHatParts.mono : ∀ a0 a1 k, LeO (spec_RedHatParts.f k a0 a1) (spec_RedHatParts.f (k + 1) a0 a1) := by
  intro a0 a1 k
  obtain ⟨ih0, ih1, ih2⟩ := spec_RedHatParts.mono_l k
  unfold spec_RedHatParts.f
  repeat' first
      | (with_reducible exact ih0 _ _ _)
      | (with_reducible exact ih1 _ _)
      | (with_reducible exact ih2 _ _ _ _ _)
      | (with_reducible exact spec_rpmRuns.mono _ _ _)
      | (with_reducible exact spec_rpmSkip.mono _ _)
      | (with_reducible exact LeO.refl _)
      | (with_reducible exact LeO.none _)
      | (with_reducible refine LeO.ite ?_ ?_)
      | (with_reducible refine LeO.bind ?_ (fun _ => ?_))
      | exact ih0 _ _ _
      | exact ih1 _ _
      | exact ih2 _ _ _ _ _
      | exact spec_rpmRuns.mono _ _ _
      | exact spec_rpmSkip.mono _ _
      | exact LeO.none _
      | refine LeO.ite ?_ ?_
      | refine LeO.bind ?_ (fun _ => ?_)
set_option maxHeartbeats 8000000 in
set_option maxRecDepth 100000 in
theorem spec_RedHatParts.calls (k : Nat) (a0 : ByteArray) (a1 : ByteArray) (r : Int) (w : World) (h : spec_RedHatParts.f k a0 a1 = some r) :
    Calls Try.prog 24 #[.string a0, .string a1] w fun e w' => e = .returned (.int .i64 r) ∧ Drawn0 w w' := by
  have H : (if a0.toList = ([] : List UInt8) then (spec_RedHatParts.j0 k a0 a1 true) else (spec_RedHatParts.j0 k a0 a1 (a1.toList == ([] : List UInt8)))) = some r := h
  clear h
  have HC3 := Aside0.mk H
  clear H
  go_enter Try.func24, Try.ntmps24
  go_upto_region 1 with (fail)
  repeat (go_quiet (fail); go_upto_region 1 with (fail))
  go_cut [12] (fun v12 wc => ∃ (kq : Nat) (x12_2 : Bool), v12 = .bool x12_2 ∧ Aside0 (spec_RedHatParts.j0 kq a0 a1 x12_2 = some r) ∧ Aside0 (kq ≤ k) ∧ Drawn0 w wc)
  case first =>
    have H := HC3.out
    clear HC3
    by_cases c4 : a0.toList = ([] : List UInt8)
    · rw [if_pos c4] at H
      have c4b0 : (a0.toList == ([] : List UInt8)) = true := beq_iff_eq.mpr c4
      have c4b1 : (a0.toList != ([] : List UInt8)) = false := bne_eq_false_iff_eq.mpr c4
      clear c4
      (first | rw [c4b0] | (simp only [i64_w, i32_w]; rw [c4b0]) | skip)
      have H' := Aside0.mk H
      clear H
      go_wp2
      repeat (go_quiet (fail); try go_wp2)
      go_meet
      case rel => exact ⟨_, (true), (by first | rfl | (simp; done) | (simp [*]; done) | (simp [bne_nil_]; done)), H', ⟨by first | omega | exact Nat.le_refl _⟩, by repeat (first | exact Drawn0.refl _ | apply Drawn0.step)⟩
    · rw [if_neg c4] at H
      have c4b0 : (a0.toList == ([] : List UInt8)) = false := beq_eq_false_iff_ne.mpr c4
      have c4b1 : (a0.toList != ([] : List UInt8)) = true := bne_iff_ne.mpr c4
      (first | rw [c4b0] | (simp only [i64_w, i32_w]; rw [c4b0]) | skip)
      have H' := Aside0.mk H
      clear H
      go_wp2
      repeat (go_quiet (fail); try go_wp2)
      go_meet
      case rel => exact ⟨_, ((a1.toList == ([] : List UInt8))), (by first | rfl | (simp; done) | (simp [*]; done) | (simp [bne_nil_]; done)), H', ⟨by first | omega | exact Nat.le_refl _⟩, by repeat (first | exact Drawn0.refl _ | apply Drawn0.step)⟩
  case rest =>
    clear HC3
    try clear c2
    try clear p2
    try clear c4
    try clear c4b0
    try clear c4b1
    obtain ⟨kq, x12_2, rfl, HA, HJ2, ⟨mc2, rfl⟩⟩ := hcut
    cases kq with
    | zero => exact absurd HA.out (by simp [spec_RedHatParts.j0])
    | succ kj2 =>
      have H := HA.out
      clear HA
      simp only [spec_RedHatParts.j0] at H
      by_cases c5 : x12_2 = true
      · subst c5
        have H1 : ((spec_orderInts.f (a0.size : Int) (a1.size : Int)).bind fun t119 => (some t119)) = some r := by rw [if_pos rfl] at H; exact H
        clear H
        have H := H1
        clear H1
        replace H := Option.bind_eq_some_iff.mp H
        obtain ⟨t119, A60, H⟩ := H
        replace H : (some t119) = some r := H
        have A6 := Aside0.mk A60
        clear A60
        obtain rfl := Option.some.inj H
        go_wp2_with (first | (go_at_call 37; (with_reducible refine (spec_orderInts.calls (a0.size : Int) (a1.size : Int) t119 _ A6.out).mono ?_); rintro e w' ⟨rfl, ⟨nd, rfl⟩⟩; (try first | exact ⟨rfl, _, World.drewN_drewN _ _ _⟩ | exact ⟨rfl, _, Eq.trans (World.drewN_drewN _ _ _) (congrArg (World.drewN _) (Nat.add_assoc _ _ _))⟩)))
        repeat (go_quiet (first | (go_at_call 37; (with_reducible refine (spec_orderInts.calls (a0.size : Int) (a1.size : Int) t119 _ A6.out).mono ?_); rintro e w' ⟨rfl, ⟨nd, rfl⟩⟩; (try first | exact ⟨rfl, _, World.drewN_drewN _ _ _⟩ | exact ⟨rfl, _, Eq.trans (World.drewN_drewN _ _ _) (congrArg (World.drewN _) (Nat.add_assoc _ _ _))⟩))); try go_wp2_with (first | (go_at_call 37; (with_reducible refine (spec_orderInts.calls (a0.size : Int) (a1.size : Int) t119 _ A6.out).mono ?_); rintro e w' ⟨rfl, ⟨nd, rfl⟩⟩; (try first | exact ⟨rfl, _, World.drewN_drewN _ _ _⟩ | exact ⟨rfl, _, Eq.trans (World.drewN_drewN _ _ _) (congrArg (World.drewN _) (Nat.add_assoc _ _ _))⟩))))
        go_ret
        exact ⟨by first | rfl | (simp; done) | (simp [*]; done) | (simp [bne_nil_]; done), by repeat (first | exact Drawn0.refl _ | apply Drawn0.step)⟩
      · replace c5 := Bool.eq_false_iff.mpr c5
        subst c5
        have H1 : (spec_RedHatParts.l0 kj2 a0 a1) = some r := by rw [if_neg (show ¬ (false = true) by decide)] at H; exact H
        clear H
        have H := H1
        clear H1
        have H' := Aside0.mk H
        clear H
        go_wp2
        repeat (go_quiet (fail); try go_wp2)
        go_loopg [0, 1] kj2 (fun kq v0 v1 w' => ∃ (x0_2 : ByteArray) (x1_2 : ByteArray), v0 = .string x0_2 ∧ v1 = .string x1_2 ∧ Aside0 (spec_RedHatParts.l0 kq x0_2 x1_2 = some r) ∧ Aside0 (kq ≤ kj2) ∧ Drawn0 w w')
        case atStart => exact ⟨(a0), (a1), (by first | rfl | (simp; done) | (simp [*]; done) | (simp [bne_nil_]; done)), (by first | rfl | (simp; done) | (simp [*]; done) | (simp [bne_nil_]; done)), H', ⟨Nat.le_refl _⟩, by repeat (first | exact Drawn0.refl _ | apply Drawn0.step)⟩
        case round =>
          clear H'
          try clear c2
          try clear p2
          try clear c4
          try clear c4b0
          try clear c4b1
          try clear c5
          try clear p2
          obtain ⟨x0_2, x1_2, rfl, rfl, HA, HK2, ⟨m2, rfl⟩⟩ := hrel
          cases gk with
          | zero => exact absurd HA.out (by simp [spec_RedHatParts.l0])
          | succ k2 =>
            have H := HA.out
            clear HA
            simp only [spec_RedHatParts.l0] at H
            replace H := Option.bind_eq_some_iff.mp H
            obtain ⟨t120, A70, H⟩ := H
            replace H : ((spec_rpmSkip.f k2 x1_2).bind fun t121 => ((spec_rpmMark.f t120).bind fun t122 => ((spec_rpmMark.f t121).bind fun t123 => ((spec_orderInts.f t122 t123).bind fun t124 => (if t124 = 0 then (spec_RedHatParts.j2 k2 t120 t121 t122 t124 (t122 == 0)) else (spec_RedHatParts.j2 k2 t120 t121 t122 t124 true)))))) = some r := H
            have A7 := Aside0.mk A70
            clear A70
            replace H := Option.bind_eq_some_iff.mp H
            obtain ⟨t121, A80, H⟩ := H
            replace H : ((spec_rpmMark.f t120).bind fun t122 => ((spec_rpmMark.f t121).bind fun t123 => ((spec_orderInts.f t122 t123).bind fun t124 => (if t124 = 0 then (spec_RedHatParts.j2 k2 t120 t121 t122 t124 (t122 == 0)) else (spec_RedHatParts.j2 k2 t120 t121 t122 t124 true))))) = some r := H
            have A8 := Aside0.mk A80
            clear A80
            replace H := Option.bind_eq_some_iff.mp H
            obtain ⟨t122, A90, H⟩ := H
            replace H : ((spec_rpmMark.f t121).bind fun t123 => ((spec_orderInts.f t122 t123).bind fun t124 => (if t124 = 0 then (spec_RedHatParts.j2 k2 t120 t121 t122 t124 (t122 == 0)) else (spec_RedHatParts.j2 k2 t120 t121 t122 t124 true)))) = some r := H
            have A9 := Aside0.mk A90
            clear A90
            replace H := Option.bind_eq_some_iff.mp H
            obtain ⟨t123, A100, H⟩ := H
            replace H : ((spec_orderInts.f t122 t123).bind fun t124 => (if t124 = 0 then (spec_RedHatParts.j2 k2 t120 t121 t122 t124 (t122 == 0)) else (spec_RedHatParts.j2 k2 t120 t121 t122 t124 true))) = some r := H
            have A10 := Aside0.mk A100
            clear A100
            replace H := Option.bind_eq_some_iff.mp H
            obtain ⟨t124, A110, H⟩ := H
            replace H : (if t124 = 0 then (spec_RedHatParts.j2 k2 t120 t121 t122 t124 (t122 == 0)) else (spec_RedHatParts.j2 k2 t120 t121 t122 t124 true)) = some r := H
            have A11 := Aside0.mk A110
            clear A110
            have HC12 := Aside0.mk H
            clear H
            go_upto_region 9 with (first | (go_at_call 38; (with_reducible refine (spec_rpmSkip.calls k2 x0_2 t120 _ A7.out).mono ?_); rintro e w' ⟨rfl, ⟨nd, rfl⟩⟩; (try first | exact ⟨rfl, _, World.drewN_drewN _ _ _⟩ | exact ⟨rfl, _, Eq.trans (World.drewN_drewN _ _ _) (congrArg (World.drewN _) (Nat.add_assoc _ _ _))⟩)) | (go_at_call 38; (with_reducible refine (spec_rpmSkip.calls k2 x1_2 t121 _ A8.out).mono ?_); rintro e w' ⟨rfl, ⟨nd, rfl⟩⟩; (try first | exact ⟨rfl, _, World.drewN_drewN _ _ _⟩ | exact ⟨rfl, _, Eq.trans (World.drewN_drewN _ _ _) (congrArg (World.drewN _) (Nat.add_assoc _ _ _))⟩)) | (go_at_call 39; (with_reducible refine (spec_rpmMark.calls t120 t122 _ A9.out).mono ?_); rintro e w' ⟨rfl, ⟨nd, rfl⟩⟩; (try first | exact ⟨rfl, _, World.drewN_drewN _ _ _⟩ | exact ⟨rfl, _, Eq.trans (World.drewN_drewN _ _ _) (congrArg (World.drewN _) (Nat.add_assoc _ _ _))⟩)) | (go_at_call 39; (with_reducible refine (spec_rpmMark.calls t121 t123 _ A10.out).mono ?_); rintro e w' ⟨rfl, ⟨nd, rfl⟩⟩; (try first | exact ⟨rfl, _, World.drewN_drewN _ _ _⟩ | exact ⟨rfl, _, Eq.trans (World.drewN_drewN _ _ _) (congrArg (World.drewN _) (Nat.add_assoc _ _ _))⟩)) | (go_at_call 37; (with_reducible refine (spec_orderInts.calls t122 t123 t124 _ A11.out).mono ?_); rintro e w' ⟨rfl, ⟨nd, rfl⟩⟩; (try first | exact ⟨rfl, _, World.drewN_drewN _ _ _⟩ | exact ⟨rfl, _, Eq.trans (World.drewN_drewN _ _ _) (congrArg (World.drewN _) (Nat.add_assoc _ _ _))⟩)))
            repeat (go_quiet (first | (go_at_call 38; (with_reducible refine (spec_rpmSkip.calls k2 x0_2 t120 _ A7.out).mono ?_); rintro e w' ⟨rfl, ⟨nd, rfl⟩⟩; (try first | exact ⟨rfl, _, World.drewN_drewN _ _ _⟩ | exact ⟨rfl, _, Eq.trans (World.drewN_drewN _ _ _) (congrArg (World.drewN _) (Nat.add_assoc _ _ _))⟩)) | (go_at_call 38; (with_reducible refine (spec_rpmSkip.calls k2 x1_2 t121 _ A8.out).mono ?_); rintro e w' ⟨rfl, ⟨nd, rfl⟩⟩; (try first | exact ⟨rfl, _, World.drewN_drewN _ _ _⟩ | exact ⟨rfl, _, Eq.trans (World.drewN_drewN _ _ _) (congrArg (World.drewN _) (Nat.add_assoc _ _ _))⟩)) | (go_at_call 39; (with_reducible refine (spec_rpmMark.calls t120 t122 _ A9.out).mono ?_); rintro e w' ⟨rfl, ⟨nd, rfl⟩⟩; (try first | exact ⟨rfl, _, World.drewN_drewN _ _ _⟩ | exact ⟨rfl, _, Eq.trans (World.drewN_drewN _ _ _) (congrArg (World.drewN _) (Nat.add_assoc _ _ _))⟩)) | (go_at_call 39; (with_reducible refine (spec_rpmMark.calls t121 t123 _ A10.out).mono ?_); rintro e w' ⟨rfl, ⟨nd, rfl⟩⟩; (try first | exact ⟨rfl, _, World.drewN_drewN _ _ _⟩ | exact ⟨rfl, _, Eq.trans (World.drewN_drewN _ _ _) (congrArg (World.drewN _) (Nat.add_assoc _ _ _))⟩)) | (go_at_call 37; (with_reducible refine (spec_orderInts.calls t122 t123 t124 _ A11.out).mono ?_); rintro e w' ⟨rfl, ⟨nd, rfl⟩⟩; (try first | exact ⟨rfl, _, World.drewN_drewN _ _ _⟩ | exact ⟨rfl, _, Eq.trans (World.drewN_drewN _ _ _) (congrArg (World.drewN _) (Nat.add_assoc _ _ _))⟩))); go_upto_region 9 with (first | (go_at_call 38; (with_reducible refine (spec_rpmSkip.calls k2 x0_2 t120 _ A7.out).mono ?_); rintro e w' ⟨rfl, ⟨nd, rfl⟩⟩; (try first | exact ⟨rfl, _, World.drewN_drewN _ _ _⟩ | exact ⟨rfl, _, Eq.trans (World.drewN_drewN _ _ _) (congrArg (World.drewN _) (Nat.add_assoc _ _ _))⟩)) | (go_at_call 38; (with_reducible refine (spec_rpmSkip.calls k2 x1_2 t121 _ A8.out).mono ?_); rintro e w' ⟨rfl, ⟨nd, rfl⟩⟩; (try first | exact ⟨rfl, _, World.drewN_drewN _ _ _⟩ | exact ⟨rfl, _, Eq.trans (World.drewN_drewN _ _ _) (congrArg (World.drewN _) (Nat.add_assoc _ _ _))⟩)) | (go_at_call 39; (with_reducible refine (spec_rpmMark.calls t120 t122 _ A9.out).mono ?_); rintro e w' ⟨rfl, ⟨nd, rfl⟩⟩; (try first | exact ⟨rfl, _, World.drewN_drewN _ _ _⟩ | exact ⟨rfl, _, Eq.trans (World.drewN_drewN _ _ _) (congrArg (World.drewN _) (Nat.add_assoc _ _ _))⟩)) | (go_at_call 39; (with_reducible refine (spec_rpmMark.calls t121 t123 _ A10.out).mono ?_); rintro e w' ⟨rfl, ⟨nd, rfl⟩⟩; (try first | exact ⟨rfl, _, World.drewN_drewN _ _ _⟩ | exact ⟨rfl, _, Eq.trans (World.drewN_drewN _ _ _) (congrArg (World.drewN _) (Nat.add_assoc _ _ _))⟩)) | (go_at_call 37; (with_reducible refine (spec_orderInts.calls t122 t123 t124 _ A11.out).mono ?_); rintro e w' ⟨rfl, ⟨nd, rfl⟩⟩; (try first | exact ⟨rfl, _, World.drewN_drewN _ _ _⟩ | exact ⟨rfl, _, Eq.trans (World.drewN_drewN _ _ _) (congrArg (World.drewN _) (Nat.add_assoc _ _ _))⟩))))
            (try simp only [Act.put, List.setIfInBounds_toArray, List.set_cons_zero, List.set_cons_succ])
            go_cut [38] (fun v38 wc => ∃ (kq : Nat) (x38_11 : Bool), v38 = .bool x38_11 ∧ Aside0 (spec_RedHatParts.j2 kq t120 t121 t122 t124 x38_11 = some r) ∧ Aside0 (kq ≤ k2) ∧ Drawn0 w wc)
            case first =>
              have H := HC12.out
              clear HC12
              by_cases c13 : t124 = 0
              · rw [if_pos c13] at H
                have c13b0 : (t124 == 0) = true := beq_iff_eq.mpr c13
                have c13b1 : (t124 != 0) = false := bne_eq_false_iff_eq.mpr c13
                clear c13
                (first | rw [c13b0] | (simp only [i64_w, i32_w]; rw [c13b0]) | skip)
                have H' := Aside0.mk H
                clear H
                go_wp2
                repeat (go_quiet (fail); try go_wp2)
                go_meet
                case rel => exact ⟨_, ((t122 == 0)), (by first | rfl | (simp; done) | (simp [*]; done) | (simp [bne_nil_]; done)), H', ⟨by have := HJ2.out; have := HK2.out; first | omega | exact Nat.le_refl _⟩, by repeat (first | exact Drawn0.refl _ | apply Drawn0.step)⟩
              · rw [if_neg c13] at H
                have c13b0 : (t124 == 0) = false := beq_eq_false_iff_ne.mpr c13
                have c13b1 : (t124 != 0) = true := bne_iff_ne.mpr c13
                (first | rw [c13b0] | (simp only [i64_w, i32_w]; rw [c13b0]) | skip)
                have H' := Aside0.mk H
                clear H
                go_wp2
                repeat (go_quiet (fail); try go_wp2)
                go_meet
                case rel => exact ⟨_, (true), (by first | rfl | (simp; done) | (simp [*]; done) | (simp [bne_nil_]; done)), H', ⟨by have := HJ2.out; have := HK2.out; first | omega | exact Nat.le_refl _⟩, by repeat (first | exact Drawn0.refl _ | apply Drawn0.step)⟩
            case rest =>
              clear HC12
              try clear c1
              try clear c2
              try clear p2
              try clear c4
              try clear c4b0
              try clear c4b1
              try clear c5
              try clear c13
              try clear c13b0
              try clear c13b1
              try clear p2
              obtain ⟨kq, x38_11, rfl, HA, HJ11, ⟨mc11, rfl⟩⟩ := hcut
              cases kq with
              | zero => exact absurd HA.out (by simp [spec_RedHatParts.j2])
              | succ kj11 =>
                have H := HA.out
                clear HA
                simp only [spec_RedHatParts.j2] at H
                by_cases c14 : x38_11 = true
                · subst c14
                  have H1 : (some t124) = some r := by rw [if_pos rfl] at H; exact H
                  clear H
                  have H := H1
                  clear H1
                  obtain rfl := Option.some.inj H
                  go_wp2
                  repeat (go_quiet (fail); try go_wp2)
                  go_ret
                  exact ⟨by first | rfl | (simp; done) | (simp [*]; done) | (simp [bne_nil_]; done), by repeat (first | exact Drawn0.refl _ | apply Drawn0.step)⟩
                · replace c14 := Bool.eq_false_iff.mpr c14
                  subst c14
                  have H1 : (if t122 < 2 then (if 1 ≤ (t120.size : Int) then (if 1 ≤ (t121.size : Int) then (spec_RedHatParts.l0 kj11 (t120.extract 1 t120.size) (t121.extract 1 t121.size)) else (none)) else (none)) else ((spec_rpmRuns.f kj11 t120 t121).bind fun bt125 => (if bt125.1 = 0 then (spec_RedHatParts.l0 kj11 bt125.2.1 bt125.2.2) else (some bt125.1)))) = some r := by rw [if_neg (show ¬ (false = true) by decide)] at H; exact H
                  clear H
                  have H := H1
                  clear H1
                  by_cases c15 : t122 < 2
                  · rw [if_pos c15] at H
                    have c15b0 : decide (t122 < 2) = true := decide_eq_true c15
                    clear c15
                    by_cases c16 : 1 ≤ (t120.size : Int)
                    · rw [if_pos c16] at H
                      have c16b0 := eq_true c16
                      have c16b1 : decide (1 ≤ (t120.size : Int)) = true := decide_eq_true c16
                      clear c16
                      by_cases c17 : 1 ≤ (t121.size : Int)
                      · rw [if_pos c17] at H
                        have c17b0 := eq_true c17
                        have c17b1 : decide (1 ≤ (t121.size : Int)) = true := decide_eq_true c17
                        clear c17
                        have H' := Aside0.mk H
                        clear H
                        go_wp2
                        repeat (go_quiet (fail); try go_wp2)
                        go_roundg kj11
                        case measure => have := HJ2.out; have := HK2.out; have := HJ11.out; omega
                        case rel => exact ⟨(t120.extract 1 t120.size), (t121.extract 1 t121.size), (by first | rfl | (simp; done) | (simp [*]; done) | (simp [bne_nil_]; done)), (by first | rfl | (simp; done) | (simp [*]; done) | (simp [bne_nil_]; done)), H', ⟨by have := HJ2.out; have := HK2.out; have := HJ11.out; omega⟩, by repeat (first | exact Drawn0.refl _ | apply Drawn0.step)⟩
                      · rw [if_neg c17] at H
                        exact absurd H (by simp)
                    · rw [if_neg c16] at H
                      exact absurd H (by simp)
                  · rw [if_neg c15] at H
                    have c15b0 : decide (t122 < 2) = false := decide_eq_false c15
                    clear c15
                    replace H := Option.bind_eq_some_iff.mp H
                    obtain ⟨⟨t125, t126, t127⟩, A180, H⟩ := H
                    replace H : (if t125 = 0 then (spec_RedHatParts.l0 kj11 t126 t127) else (some t125)) = some r := H
                    have A18 := Aside0.mk A180
                    clear A180
                    by_cases c19 : t125 = 0
                    · rw [if_pos c19] at H
                      have c19b0 : (t125 == 0) = true := beq_iff_eq.mpr c19
                      have c19b1 : (t125 != 0) = false := bne_eq_false_iff_eq.mpr c19
                      clear c19
                      have H' := Aside0.mk H
                      clear H
                      go_wp2_with (first | (go_at_call 40; (with_reducible refine (spec_rpmRuns.calls kj11 t120 t121 t125 t126 t127 _ A18.out).mono ?_); rintro e w' ⟨rfl, ⟨nd, rfl⟩⟩; (try first | exact ⟨rfl, _, World.drewN_drewN _ _ _⟩ | exact ⟨rfl, _, Eq.trans (World.drewN_drewN _ _ _) (congrArg (World.drewN _) (Nat.add_assoc _ _ _))⟩)))
                      repeat (go_quiet (first | (go_at_call 40; (with_reducible refine (spec_rpmRuns.calls kj11 t120 t121 t125 t126 t127 _ A18.out).mono ?_); rintro e w' ⟨rfl, ⟨nd, rfl⟩⟩; (try first | exact ⟨rfl, _, World.drewN_drewN _ _ _⟩ | exact ⟨rfl, _, Eq.trans (World.drewN_drewN _ _ _) (congrArg (World.drewN _) (Nat.add_assoc _ _ _))⟩))); try go_wp2_with (first | (go_at_call 40; (with_reducible refine (spec_rpmRuns.calls kj11 t120 t121 t125 t126 t127 _ A18.out).mono ?_); rintro e w' ⟨rfl, ⟨nd, rfl⟩⟩; (try first | exact ⟨rfl, _, World.drewN_drewN _ _ _⟩ | exact ⟨rfl, _, Eq.trans (World.drewN_drewN _ _ _) (congrArg (World.drewN _) (Nat.add_assoc _ _ _))⟩))))
                      go_roundg kj11
                      case measure => have := HJ2.out; have := HK2.out; have := HJ11.out; omega
                      case rel => exact ⟨(t126), (t127), (by first | rfl | (simp; done) | (simp [*]; done) | (simp [bne_nil_]; done)), (by first | rfl | (simp; done) | (simp [*]; done) | (simp [bne_nil_]; done)), H', ⟨by have := HJ2.out; have := HK2.out; have := HJ11.out; omega⟩, by repeat (first | exact Drawn0.refl _ | apply Drawn0.step)⟩
                    · rw [if_neg c19] at H
                      have c19b0 : (t125 == 0) = false := beq_eq_false_iff_ne.mpr c19
                      have c19b1 : (t125 != 0) = true := bne_iff_ne.mpr c19
                      obtain rfl := Option.some.inj H
                      go_wp2_with (first | (go_at_call 40; (with_reducible refine (spec_rpmRuns.calls kj11 t120 t121 t125 t126 t127 _ A18.out).mono ?_); rintro e w' ⟨rfl, ⟨nd, rfl⟩⟩; (try first | exact ⟨rfl, _, World.drewN_drewN _ _ _⟩ | exact ⟨rfl, _, Eq.trans (World.drewN_drewN _ _ _) (congrArg (World.drewN _) (Nat.add_assoc _ _ _))⟩)))
                      repeat (go_quiet (first | (go_at_call 40; (with_reducible refine (spec_rpmRuns.calls kj11 t120 t121 t125 t126 t127 _ A18.out).mono ?_); rintro e w' ⟨rfl, ⟨nd, rfl⟩⟩; (try first | exact ⟨rfl, _, World.drewN_drewN _ _ _⟩ | exact ⟨rfl, _, Eq.trans (World.drewN_drewN _ _ _) (congrArg (World.drewN _) (Nat.add_assoc _ _ _))⟩))); try go_wp2_with (first | (go_at_call 40; (with_reducible refine (spec_rpmRuns.calls kj11 t120 t121 t125 t126 t127 _ A18.out).mono ?_); rintro e w' ⟨rfl, ⟨nd, rfl⟩⟩; (try first | exact ⟨rfl, _, World.drewN_drewN _ _ _⟩ | exact ⟨rfl, _, Eq.trans (World.drewN_drewN _ _ _) (congrArg (World.drewN _) (Nat.add_assoc _ _ _))⟩))))
                      go_ret
                      exact ⟨by first | rfl | (simp; done) | (simp [*]; done) | (simp [bne_nil_]; done), by repeat (first | exact Drawn0.refl _ | apply Drawn0.step)⟩

/-! ### laws_turned: function 25 -/
def laws_turned.f (a0 : Int) (a1 : Int) : Option (Bool) := if a0 = (wrap64 (-a1)) then (if a0 ≥ (-1) then (some (decide (a0 ≤ 1))) else (some false)) else (some false)
set_option maxHeartbeats 8000000 in
set_option maxRecDepth 100000 in
theorem laws_turned.calls (a0 : Int) (a1 : Int) (r : Bool) (w : World) (h : laws_turned.f a0 a1 = some r) :
    Calls Try.prog 25 #[.int .i64 a0, .int .i64 a1] w fun e w' => e = .returned (.bool r) ∧ Drawn0 w w' := by
  have H : (if a0 = (wrap64 (-a1)) then (if a0 ≥ (-1) then (some (decide (a0 ≤ 1))) else (some false)) else (some false)) = some r := h
  clear h
  by_cases c3 : a0 = (wrap64 (-a1))
  · rw [if_pos c3] at H
    have c3b0 : (a0 == (wrap64 (-a1))) = true := beq_iff_eq.mpr c3
    have c3b1 : (a0 != (wrap64 (-a1))) = false := bne_eq_false_iff_eq.mpr c3
    clear c3
    by_cases c4 : a0 ≥ (-1)
    · rw [if_pos c4] at H
      have c4b0 : decide ((-1) ≤ a0) = true := decide_eq_true c4
      clear c4
      obtain rfl := Option.some.inj H
      go_enter Try.func25, Try.ntmps25
      go_wp2
      go_ret
      exact ⟨by first | rfl | (simp; done) | (simp [*]; done) | (simp [bne_nil_]; done), by repeat (first | exact Drawn0.refl _ | apply Drawn0.step)⟩
    · rw [if_neg c4] at H
      have c4b0 : decide ((-1) ≤ a0) = false := decide_eq_false c4
      clear c4
      obtain rfl := Option.some.inj H
      go_enter Try.func25, Try.ntmps25
      go_wp2
      go_ret
      exact ⟨by first | rfl | (simp; done) | (simp [*]; done) | (simp [bne_nil_]; done), by repeat (first | exact Drawn0.refl _ | apply Drawn0.step)⟩
  · rw [if_neg c3] at H
    have c3b0 : (a0 == (wrap64 (-a1))) = false := beq_eq_false_iff_ne.mpr c3
    have c3b1 : (a0 != (wrap64 (-a1))) = true := bne_iff_ne.mpr c3
    obtain rfl := Option.some.inj H
    go_enter Try.func25, Try.ntmps25
    go_wp2
    go_ret
    exact ⟨by first | rfl | (simp; done) | (simp [*]; done) | (simp [bne_nil_]; done), by repeat (first | exact Drawn0.refl _ | apply Drawn0.step)⟩

end Go.Proofs.Ytojabknjniihmaa.QR
