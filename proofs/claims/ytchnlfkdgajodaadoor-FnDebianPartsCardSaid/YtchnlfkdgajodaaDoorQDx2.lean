-- Written by a working copy of the kit's print program, turned at a few places by wip/tool/mkprint.py. Lean checks it.
import Derived.Test.YtchnlfkdgajodaaDoorQDx0
import Derived.Test.YtchnlfkdgajodaaDoorQDx1
namespace Go.Proofs.YtchnlfkdgajodaaDoor.QD
open Go.RowKit Go.Proofs.YtchnlfkdgajodaaDoorW.PrintWords Go.Proofs.YtchnlfkdgajodaaDoorW.PrintLast Go.Proofs.YtchnlfkdgajodaaDoorW.PrintMore
attribute [local go_sem] max2_int min2_int max_two min_two max_three min_three max_four min_four   -- for this text's walks alone
set_option linter.unusedVariables false
set_option linter.unusedSimpArgs false

/-! ### spec_debParts: function 12 -/
mutual
def spec_debParts.l0 : Nat → ByteArray → ByteArray → Option (Int)
  | 0, _, _ => none
  | k + 1, x0, x1 => if (x0.size : Int) > 0 then (spec_debParts.j1 k x0 x1 true) else (spec_debParts.j1 k x0 x1 (decide ((x1.size : Int) > 0)))
def spec_debParts.j1 : Nat → ByteArray → ByteArray → Bool → Option (Int)
  | 0, _, _, _ => none
  | k + 1, x0, x1, x17 => if x17 = true then (spec_debParts.l1 k x0 x1 0) else (some 0)
def spec_debParts.l1 : Nat → ByteArray → ByteArray → Int → Option (Int)
  | 0, _, _, _ => none
  | k + 1, x0, x1, x5 => if x5 < (x0.size : Int) then (if 0 ≤ x5 then ((spec_isDigit.f (bt x0 x5)).bind fun t120 => (if t120 = true then (if x5 < (x1.size : Int) then ((spec_isDigit.f (bt x1 x5)).bind fun t121 => (spec_debParts.j3 k x0 x1 x5 (!t121))) else (spec_debParts.j3 k x0 x1 x5 false)) else (spec_debParts.j3 k x0 x1 x5 true))) else (none)) else (if x5 < (x1.size : Int) then (if 0 ≤ x5 then ((spec_isDigit.f (bt x1 x5)).bind fun t122 => (spec_debParts.j3 k x0 x1 x5 (!t122))) else (none)) else (spec_debParts.j3 k x0 x1 x5 false))
def spec_debParts.j3 : Nat → ByteArray → ByteArray → Int → Bool → Option (Int)
  | 0, _, _, _, _ => none
  | k + 1, x0, x1, x5, x41 => if x41 = true then ((spec_debWeight.f k x0 x5).bind fun t123 => ((spec_debWeight.f k x1 x5).bind fun t124 => ((spec_orderInts.f t123 t124).bind fun t125 => (if t125 = 0 then (spec_debParts.l1 k x0 x1 (wrap64 (x5 + 1))) else (some t125))))) else (if 0 ≤ x5 then (if x5 ≤ (x0.size : Int) then (if x5 ≤ (x1.size : Int) then ((spec_debRun.f k (x0.extract (x5 : Int).toNat x0.size)).bind fun t126 => ((spec_debRun.f k (x1.extract (x5 : Int).toNat x1.size)).bind fun t127 => (if 0 ≤ t126 then (if t126 ≤ ((x0.extract (x5 : Int).toNat x0.size).size : Int) then (if 0 ≤ t127 then (if t127 ≤ ((x1.extract (x5 : Int).toNat x1.size).size : Int) then ((spec_orderNumbers.f k ((x0.extract (x5 : Int).toNat x0.size).extract 0 (t126 : Int).toNat) ((x1.extract (x5 : Int).toNat x1.size).extract 0 (t127 : Int).toNat)).bind fun t128 => (if t128 = 0 then (spec_debParts.l0 k ((x0.extract (x5 : Int).toNat x0.size).extract (t126 : Int).toNat (x0.size - (x5 : Int).toNat)) ((x1.extract (x5 : Int).toNat x1.size).extract (t127 : Int).toNat (x1.size - (x5 : Int).toNat))) else (some t128))) else (none)) else (none)) else (none)) else (none)))) else (none)) else (none)) else (none))
end
def spec_debParts.f (k : Nat) (a0 : ByteArray) (a1 : ByteArray) : Option (Int) := spec_debParts.l0 k a0 a1
theorem spec_debParts.mono_l : ∀ k, (∀ y0 y1, LeO (spec_debParts.l0 k y0 y1) (spec_debParts.l0 (k + 1) y0 y1)) ∧ (∀ y0 y1 y2, LeO (spec_debParts.j1 k y0 y1 y2) (spec_debParts.j1 (k + 1) y0 y1 y2)) ∧ (∀ y0 y1 y2, LeO (spec_debParts.l1 k y0 y1 y2) (spec_debParts.l1 (k + 1) y0 y1 y2)) ∧ (∀ y0 y1 y2 y3, LeO (spec_debParts.j3 k y0 y1 y2 y3) (spec_debParts.j3 (k + 1) y0 y1 y2 y3))
  | 0 => ⟨fun _ _ r h => by simp [spec_debParts.l0] at h, fun _ _ _ r h => by simp [spec_debParts.j1] at h, fun _ _ _ r h => by simp [spec_debParts.l1] at h, fun _ _ _ _ r h => by simp [spec_debParts.j3] at h⟩
  | k + 1 => by
    obtain ⟨ih0, ih1, ih2, ih3⟩ := spec_debParts.mono_l k
    refine ⟨?_, ?_, ?_, ?_⟩
    · intro y0 y1
      unfold spec_debParts.l0
      repeat' first
      | (with_reducible exact ih0 _ _)
      | (with_reducible exact ih1 _ _ _)
      | (with_reducible exact ih2 _ _ _)
      | (with_reducible exact ih3 _ _ _ _)
      | (with_reducible exact spec_debRun.mono _ _)
      | (with_reducible exact spec_debWeight.mono _ _ _)
      | (with_reducible exact spec_orderNumbers.mono _ _ _)
      | (with_reducible exact LeO.refl _)
      | (with_reducible exact LeO.none _)
      | (with_reducible refine LeO.ite ?_ ?_)
      | (with_reducible refine LeO.bind ?_ (fun _ => ?_))
      | exact ih0 _ _
      | exact ih1 _ _ _
      | exact ih2 _ _ _
      | exact ih3 _ _ _ _
      | exact spec_debRun.mono _ _
      | exact spec_debWeight.mono _ _ _
      | exact spec_orderNumbers.mono _ _ _
      | exact LeO.none _
      | refine LeO.ite ?_ ?_
      | refine LeO.bind ?_ (fun _ => ?_)
    · intro y0 y1 y2
      unfold spec_debParts.j1
      repeat' first
      | (with_reducible exact ih0 _ _)
      | (with_reducible exact ih1 _ _ _)
      | (with_reducible exact ih2 _ _ _)
      | (with_reducible exact ih3 _ _ _ _)
      | (with_reducible exact spec_debRun.mono _ _)
      | (with_reducible exact spec_debWeight.mono _ _ _)
      | (with_reducible exact spec_orderNumbers.mono _ _ _)
      | (with_reducible exact LeO.refl _)
      | (with_reducible exact LeO.none _)
      | (with_reducible refine LeO.ite ?_ ?_)
      | (with_reducible refine LeO.bind ?_ (fun _ => ?_))
      | exact ih0 _ _
      | exact ih1 _ _ _
      | exact ih2 _ _ _
      | exact ih3 _ _ _ _
      | exact spec_debRun.mono _ _
      | exact spec_debWeight.mono _ _ _
      | exact spec_orderNumbers.mono _ _ _
      | exact LeO.none _
      | refine LeO.ite ?_ ?_
      | refine LeO.bind ?_ (fun _ => ?_)
    · intro y0 y1 y2
      unfold spec_debParts.l1
      repeat' first
      | (with_reducible exact ih0 _ _)
      | (with_reducible exact ih1 _ _ _)
      | (with_reducible exact ih2 _ _ _)
      | (with_reducible exact ih3 _ _ _ _)
      | (with_reducible exact spec_debRun.mono _ _)
      | (with_reducible exact spec_debWeight.mono _ _ _)
      | (with_reducible exact spec_orderNumbers.mono _ _ _)
      | (with_reducible exact LeO.refl _)
      | (with_reducible exact LeO.none _)
      | (with_reducible refine LeO.ite ?_ ?_)
      | (with_reducible refine LeO.bind ?_ (fun _ => ?_))
      | exact ih0 _ _
      | exact ih1 _ _ _
      | exact ih2 _ _ _
      | exact ih3 _ _ _ _
      | exact spec_debRun.mono _ _
      | exact spec_debWeight.mono _ _ _
      | exact spec_orderNumbers.mono _ _ _
      | exact LeO.none _
      | refine LeO.ite ?_ ?_
      | refine LeO.bind ?_ (fun _ => ?_)
    · intro y0 y1 y2 y3
      unfold spec_debParts.j3
      repeat' first
      | (with_reducible exact ih0 _ _)
      | (with_reducible exact ih1 _ _ _)
      | (with_reducible exact ih2 _ _ _)
      | (with_reducible exact ih3 _ _ _ _)
      | (with_reducible exact spec_debRun.mono _ _)
      | (with_reducible exact spec_debWeight.mono _ _ _)
      | (with_reducible exact spec_orderNumbers.mono _ _ _)
      | (with_reducible exact LeO.refl _)
      | (with_reducible exact LeO.none _)
      | (with_reducible refine LeO.ite ?_ ?_)
      | (with_reducible refine LeO.bind ?_ (fun _ => ?_))
      | exact ih0 _ _
      | exact ih1 _ _ _
      | exact ih2 _ _ _
      | exact ih3 _ _ _ _
      | exact spec_debRun.mono _ _
      | exact spec_debWeight.mono _ _ _
      | exact spec_orderNumbers.mono _ _ _
      | exact LeO.none _
      | refine LeO.ite ?_ ?_
      | refine LeO.bind ?_ (fun _ => ?_)
theorem spec_debParts.mono : ∀ a0 a1 k, LeO (spec_debParts.f k a0 a1) (spec_debParts.f (k + 1) a0 a1) := by
  intro a0 a1 k
  obtain ⟨ih0, ih1, ih2, ih3⟩ := spec_debParts.mono_l k
  unfold spec_debParts.f
  repeat' first
      | (with_reducible exact ih0 _ _)
      | (with_reducible exact ih1 _ _ _)
      | (with_reducible exact ih2 _ _ _)
      | (with_reducible exact ih3 _ _ _ _)
      | (with_reducible exact spec_debRun.mono _ _)
      | (with_reducible exact spec_debWeight.mono _ _ _)
      | (with_reducible exact spec_orderNumbers.mono _ _ _)
      | (with_reducible exact LeO.refl _)
      | (with_reducible exact LeO.none _)
      | (with_reducible refine LeO.ite ?_ ?_)
      | (with_reducible refine LeO.bind ?_ (fun _ => ?_))
      | exact ih0 _ _
      | exact ih1 _ _ _
      | exact ih2 _ _ _
      | exact ih3 _ _ _ _
      | exact spec_debRun.mono _ _
      | exact spec_debWeight.mono _ _ _
      | exact spec_orderNumbers.mono _ _ _
      | exact LeO.none _
      | refine LeO.ite ?_ ?_
      | refine LeO.bind ?_ (fun _ => ?_)
set_option maxHeartbeats 8000000 in
set_option maxRecDepth 100000 in
theorem spec_debParts.calls (k : Nat) (a0 : ByteArray) (a1 : ByteArray) (r : Int) (w : World) (h : spec_debParts.f k a0 a1 = some r) :
    Calls Tryd.prog 12 #[.string a0, .string a1] w fun e w' => e = .returned (.int .i64 r) ∧ Drawn0 w w' := by
  have H : (spec_debParts.l0 k a0 a1) = some r := h
  clear h
  have H' := Aside0.mk H
  clear H
  go_enter Tryd.func12, Tryd.ntmps12
  go_wp2
  repeat (go_quiet (fail); try go_wp2)
  go_loopg [0, 1] k (fun kq v0 v1 w' => ∃ (x0_1 : ByteArray) (x1_1 : ByteArray), v0 = .string x0_1 ∧ v1 = .string x1_1 ∧ Aside0 (spec_debParts.l0 kq x0_1 x1_1 = some r) ∧ Aside0 (kq ≤ k) ∧ Drawn0 w w')
  case atStart => exact ⟨(a0), (a1), (by first | rfl | (simp; done) | (simp [*]; done) | (simp [bne_nil_]; done)), (by first | rfl | (simp; done) | (simp [*]; done) | (simp [bne_nil_]; done)), H', ⟨Nat.le_refl _⟩, by repeat (first | exact Drawn0.refl _ | apply Drawn0.step)⟩
  case round =>
    clear H'
    try clear c1
    try clear p2
    obtain ⟨x0_1, x1_1, rfl, rfl, HA, HK1, ⟨m1, rfl⟩⟩ := hrel
    cases gk with
    | zero => exact absurd HA.out (by simp [spec_debParts.l0])
    | succ k1 =>
      have H := HA.out
      clear HA
      simp only [spec_debParts.l0] at H
      have HC3 := Aside0.mk H
      clear H
      go_upto_region 1 with (fail)
      repeat (go_quiet (fail); go_upto_region 1 with (fail))
      go_cut [17] (fun v17 wc => ∃ (kq : Nat) (x17_2 : Bool), v17 = .bool x17_2 ∧ Aside0 (spec_debParts.j1 kq x0_1 x1_1 x17_2 = some r) ∧ Aside0 (kq ≤ k1) ∧ Drawn0 w wc)
      case first =>
        have H := HC3.out
        clear HC3
        by_cases c4 : (x0_1.size : Int) > 0
        · rw [if_pos c4] at H
          have c4b0 : decide (0 < (x0_1.size : Int)) = true := decide_eq_true c4
          have c4b1 : decide (0 < x0_1.size) = true := decide_eq_true (by omega)
          clear c4
          (first | rw [c4b0] | (simp only [i64_w, i32_w]; rw [c4b0]) | skip)
          have H' := Aside0.mk H
          clear H
          go_wp2
          repeat (go_quiet (fail); try go_wp2)
          go_meet
          case rel => exact ⟨_, (true), (by first | rfl | (simp; done) | (simp [*]; done) | (simp [bne_nil_]; done)), H', ⟨by have := HK1.out; first | omega | exact Nat.le_refl _⟩, by repeat (first | exact Drawn0.refl _ | apply Drawn0.step)⟩
        · rw [if_neg c4] at H
          have c4b0 : decide (0 < (x0_1.size : Int)) = false := decide_eq_false c4
          have c4b1 : decide (0 < x0_1.size) = false := decide_eq_false (by omega)
          clear c4
          (first | rw [c4b0] | (simp only [i64_w, i32_w]; rw [c4b0]) | skip)
          have H' := Aside0.mk H
          clear H
          go_wp2
          repeat (go_quiet (fail); try go_wp2)
          go_meet
          case rel => exact ⟨_, (decide ((x1_1.size : Int) > 0)), (by first | rfl | (simp; done) | (simp [*]; done) | (simp [bne_nil_]; done)), H', ⟨by have := HK1.out; first | omega | exact Nat.le_refl _⟩, by repeat (first | exact Drawn0.refl _ | apply Drawn0.step)⟩
      case rest =>
        clear HC3
        try clear c1
        try clear p2
        try clear c4
        try clear c4b0
        try clear c4b1
        try clear p2
        obtain ⟨kq, x17_2, rfl, HA, HJ2, ⟨mc2, rfl⟩⟩ := hcut
        cases kq with
        | zero => exact absurd HA.out (by simp [spec_debParts.j1])
        | succ kj2 =>
          have H := HA.out
          clear HA
          simp only [spec_debParts.j1] at H
          by_cases c5 : x17_2 = true
          · subst c5
            have H1 : (spec_debParts.l1 kj2 x0_1 x1_1 0) = some r := by rw [if_pos rfl] at H; exact H
            clear H
            have H := H1
            clear H1
            have H' := Aside0.mk H
            clear H
            go_wp2
            repeat (go_quiet (fail); try go_wp2)
            go_loopg [5] kj2 (fun kq v5 w' => ∃ (x5_3 : Int), v5 = .int .i64 x5_3 ∧ Aside0 (spec_debParts.l1 kq x0_1 x1_1 x5_3 = some r) ∧ Aside0 (kq ≤ kj2) ∧ Drawn0 w w')
            case atStart => exact ⟨(0), (by first | rfl | (simp; done) | (simp [*]; done) | (simp [bne_nil_]; done)), H', ⟨Nat.le_refl _⟩, by repeat (first | exact Drawn0.refl _ | apply Drawn0.step)⟩
            case round =>
              clear H'
              try clear c1
              try clear c2
              try clear p2
              try clear c4
              try clear c4b0
              try clear c4b1
              try clear c5
              try clear p2
              obtain ⟨x5_3, rfl, HA, HK3, ⟨m3, rfl⟩⟩ := hrel
              cases gk with
              | zero => exact absurd HA.out (by simp [spec_debParts.l1])
              | succ k3 =>
                have H := HA.out
                clear HA
                simp only [spec_debParts.l1] at H
                have HC6 := Aside0.mk H
                clear H
                go_upto_region 3 with (fail)
                repeat (go_quiet (fail); go_upto_region 3 with (fail))
                go_cut [41] (fun v41 wc => ∃ (kq : Nat) (x41_5 : Bool), v41 = .bool x41_5 ∧ Aside0 (spec_debParts.j3 kq x0_1 x1_1 x5_3 x41_5 = some r) ∧ Aside0 (kq ≤ k3) ∧ Drawn0 w wc)
                case first =>
                  have H := HC6.out
                  clear HC6
                  by_cases c7 : x5_3 < (x0_1.size : Int)
                  · rw [if_pos c7] at H
                    have c7b0 : decide (x5_3 < (x0_1.size : Int)) = true := decide_eq_true c7
                    clear c7
                    (first | rw [c7b0] | (simp only [i64_w, i32_w]; rw [c7b0]) | skip)
                    by_cases c8 : 0 ≤ x5_3
                    · rw [if_pos c8] at H
                      have c8b0 : decide (0 ≤ x5_3) = true := decide_eq_true c8
                      clear c8
                      replace H := Option.bind_eq_some_iff.mp H
                      obtain ⟨t120, A100, H⟩ := H
                      replace H : (if t120 = true then (if x5_3 < (x1_1.size : Int) then ((spec_isDigit.f (bt x1_1 x5_3)).bind fun t121 => (spec_debParts.j3 k3 x0_1 x1_1 x5_3 (!t121))) else (spec_debParts.j3 k3 x0_1 x1_1 x5_3 false)) else (spec_debParts.j3 k3 x0_1 x1_1 x5_3 true)) = some r := H
                      have A10 := Aside0.mk A100
                      clear A100
                      by_cases c11 : t120 = true
                      · subst c11
                        have H1 : (if x5_3 < (x1_1.size : Int) then ((spec_isDigit.f (bt x1_1 x5_3)).bind fun t121 => (spec_debParts.j3 k3 x0_1 x1_1 x5_3 (!t121))) else (spec_debParts.j3 k3 x0_1 x1_1 x5_3 false)) = some r := by rw [if_pos rfl] at H; exact H
                        clear H
                        have H := H1
                        clear H1
                        by_cases c12 : x5_3 < (x1_1.size : Int)
                        · rw [if_pos c12] at H
                          have c12b0 : decide (x5_3 < (x1_1.size : Int)) = true := decide_eq_true c12
                          clear c12
                          replace H := Option.bind_eq_some_iff.mp H
                          obtain ⟨t121, A140, H⟩ := H
                          replace H : (spec_debParts.j3 k3 x0_1 x1_1 x5_3 (!t121)) = some r := H
                          have A14 := Aside0.mk A140
                          clear A140
                          have H' := Aside0.mk H
                          clear H
                          have p9 : 0 ≤ (x5_3 : Int) := of_decide_eq_true (by first | (with_reducible assumption) | assumption)
                          have q9 : x5_3 < (x0_1.size : Int) := of_decide_eq_true (by first | (with_reducible assumption) | assumption)
                          have hx9 := bt_at x0_1 x5_3
                          replace p9 := eq_true p9
                          replace q9 := eq_true q9
                          go_wp2_with (first | (go_at_call 15; (with_reducible refine (spec_isDigit.calls (bt x0_1 x5_3) true _ A10.out).mono ?_); rintro e w' ⟨rfl, ⟨nd, rfl⟩⟩; (try first | exact ⟨rfl, _, World.drewN_drewN _ _ _⟩ | exact ⟨rfl, _, Eq.trans (World.drewN_drewN _ _ _) (congrArg (World.drewN _) (Nat.add_assoc _ _ _))⟩); have p13 : 0 ≤ (x5_3 : Int) := of_decide_eq_true (by first | (with_reducible assumption) | assumption); have q13 : x5_3 < (x1_1.size : Int) := of_decide_eq_true (by first | (with_reducible assumption) | assumption); have hx13 := bt_at x1_1 x5_3; replace p13 := eq_true p13; replace q13 := eq_true q13) | (go_at_call 15; (with_reducible refine (spec_isDigit.calls (bt x1_1 x5_3) t121 _ A14.out).mono ?_); rintro e w' ⟨rfl, ⟨nd, rfl⟩⟩; (try first | exact ⟨rfl, _, World.drewN_drewN _ _ _⟩ | exact ⟨rfl, _, Eq.trans (World.drewN_drewN _ _ _) (congrArg (World.drewN _) (Nat.add_assoc _ _ _))⟩)))
                          repeat (go_quiet (first | (go_at_call 15; (with_reducible refine (spec_isDigit.calls (bt x0_1 x5_3) true _ A10.out).mono ?_); rintro e w' ⟨rfl, ⟨nd, rfl⟩⟩; (try first | exact ⟨rfl, _, World.drewN_drewN _ _ _⟩ | exact ⟨rfl, _, Eq.trans (World.drewN_drewN _ _ _) (congrArg (World.drewN _) (Nat.add_assoc _ _ _))⟩); have p13 : 0 ≤ (x5_3 : Int) := of_decide_eq_true (by first | (with_reducible assumption) | assumption); have q13 : x5_3 < (x1_1.size : Int) := of_decide_eq_true (by first | (with_reducible assumption) | assumption); have hx13 := bt_at x1_1 x5_3; replace p13 := eq_true p13; replace q13 := eq_true q13) | (go_at_call 15; (with_reducible refine (spec_isDigit.calls (bt x1_1 x5_3) t121 _ A14.out).mono ?_); rintro e w' ⟨rfl, ⟨nd, rfl⟩⟩; (try first | exact ⟨rfl, _, World.drewN_drewN _ _ _⟩ | exact ⟨rfl, _, Eq.trans (World.drewN_drewN _ _ _) (congrArg (World.drewN _) (Nat.add_assoc _ _ _))⟩))); try go_wp2_with (first | (go_at_call 15; (with_reducible refine (spec_isDigit.calls (bt x0_1 x5_3) true _ A10.out).mono ?_); rintro e w' ⟨rfl, ⟨nd, rfl⟩⟩; (try first | exact ⟨rfl, _, World.drewN_drewN _ _ _⟩ | exact ⟨rfl, _, Eq.trans (World.drewN_drewN _ _ _) (congrArg (World.drewN _) (Nat.add_assoc _ _ _))⟩); have p13 : 0 ≤ (x5_3 : Int) := of_decide_eq_true (by first | (with_reducible assumption) | assumption); have q13 : x5_3 < (x1_1.size : Int) := of_decide_eq_true (by first | (with_reducible assumption) | assumption); have hx13 := bt_at x1_1 x5_3; replace p13 := eq_true p13; replace q13 := eq_true q13) | (go_at_call 15; (with_reducible refine (spec_isDigit.calls (bt x1_1 x5_3) t121 _ A14.out).mono ?_); rintro e w' ⟨rfl, ⟨nd, rfl⟩⟩; (try first | exact ⟨rfl, _, World.drewN_drewN _ _ _⟩ | exact ⟨rfl, _, Eq.trans (World.drewN_drewN _ _ _) (congrArg (World.drewN _) (Nat.add_assoc _ _ _))⟩))))
                          go_meet
                          case rel => exact ⟨_, (!t121), (by first | rfl | (simp; done) | (simp [*]; done) | (simp [bne_nil_]; done)), H', ⟨by have := HK1.out; have := HJ2.out; have := HK3.out; first | omega | exact Nat.le_refl _⟩, by repeat (first | exact Drawn0.refl _ | apply Drawn0.step)⟩
                        · rw [if_neg c12] at H
                          have c12b0 : decide (x5_3 < (x1_1.size : Int)) = false := decide_eq_false c12
                          clear c12
                          have H' := Aside0.mk H
                          clear H
                          have p9 : 0 ≤ (x5_3 : Int) := of_decide_eq_true (by first | (with_reducible assumption) | assumption)
                          have q9 : x5_3 < (x0_1.size : Int) := of_decide_eq_true (by first | (with_reducible assumption) | assumption)
                          have hx9 := bt_at x0_1 x5_3
                          replace p9 := eq_true p9
                          replace q9 := eq_true q9
                          go_wp2_with (first | (go_at_call 15; (with_reducible refine (spec_isDigit.calls (bt x0_1 x5_3) true _ A10.out).mono ?_); rintro e w' ⟨rfl, ⟨nd, rfl⟩⟩; (try first | exact ⟨rfl, _, World.drewN_drewN _ _ _⟩ | exact ⟨rfl, _, Eq.trans (World.drewN_drewN _ _ _) (congrArg (World.drewN _) (Nat.add_assoc _ _ _))⟩)))
                          repeat (go_quiet (first | (go_at_call 15; (with_reducible refine (spec_isDigit.calls (bt x0_1 x5_3) true _ A10.out).mono ?_); rintro e w' ⟨rfl, ⟨nd, rfl⟩⟩; (try first | exact ⟨rfl, _, World.drewN_drewN _ _ _⟩ | exact ⟨rfl, _, Eq.trans (World.drewN_drewN _ _ _) (congrArg (World.drewN _) (Nat.add_assoc _ _ _))⟩))); try go_wp2_with (first | (go_at_call 15; (with_reducible refine (spec_isDigit.calls (bt x0_1 x5_3) true _ A10.out).mono ?_); rintro e w' ⟨rfl, ⟨nd, rfl⟩⟩; (try first | exact ⟨rfl, _, World.drewN_drewN _ _ _⟩ | exact ⟨rfl, _, Eq.trans (World.drewN_drewN _ _ _) (congrArg (World.drewN _) (Nat.add_assoc _ _ _))⟩))))
                          go_meet
                          case rel => exact ⟨_, (false), (by first | rfl | (simp; done) | (simp [*]; done) | (simp [bne_nil_]; done)), H', ⟨by have := HK1.out; have := HJ2.out; have := HK3.out; first | omega | exact Nat.le_refl _⟩, by repeat (first | exact Drawn0.refl _ | apply Drawn0.step)⟩
                      · replace c11 := Bool.eq_false_iff.mpr c11
                        subst c11
                        have H1 : (spec_debParts.j3 k3 x0_1 x1_1 x5_3 true) = some r := by rw [if_neg (show ¬ (false = true) by decide)] at H; exact H
                        clear H
                        have H := H1
                        clear H1
                        have H' := Aside0.mk H
                        clear H
                        have p9 : 0 ≤ (x5_3 : Int) := of_decide_eq_true (by first | (with_reducible assumption) | assumption)
                        have q9 : x5_3 < (x0_1.size : Int) := of_decide_eq_true (by first | (with_reducible assumption) | assumption)
                        have hx9 := bt_at x0_1 x5_3
                        replace p9 := eq_true p9
                        replace q9 := eq_true q9
                        go_wp2_with (first | (go_at_call 15; (with_reducible refine (spec_isDigit.calls (bt x0_1 x5_3) false _ A10.out).mono ?_); rintro e w' ⟨rfl, ⟨nd, rfl⟩⟩; (try first | exact ⟨rfl, _, World.drewN_drewN _ _ _⟩ | exact ⟨rfl, _, Eq.trans (World.drewN_drewN _ _ _) (congrArg (World.drewN _) (Nat.add_assoc _ _ _))⟩)))
                        repeat (go_quiet (first | (go_at_call 15; (with_reducible refine (spec_isDigit.calls (bt x0_1 x5_3) false _ A10.out).mono ?_); rintro e w' ⟨rfl, ⟨nd, rfl⟩⟩; (try first | exact ⟨rfl, _, World.drewN_drewN _ _ _⟩ | exact ⟨rfl, _, Eq.trans (World.drewN_drewN _ _ _) (congrArg (World.drewN _) (Nat.add_assoc _ _ _))⟩))); try go_wp2_with (first | (go_at_call 15; (with_reducible refine (spec_isDigit.calls (bt x0_1 x5_3) false _ A10.out).mono ?_); rintro e w' ⟨rfl, ⟨nd, rfl⟩⟩; (try first | exact ⟨rfl, _, World.drewN_drewN _ _ _⟩ | exact ⟨rfl, _, Eq.trans (World.drewN_drewN _ _ _) (congrArg (World.drewN _) (Nat.add_assoc _ _ _))⟩))))
                        go_meet
                        case rel => exact ⟨_, (true), (by first | rfl | (simp; done) | (simp [*]; done) | (simp [bne_nil_]; done)), H', ⟨by have := HK1.out; have := HJ2.out; have := HK3.out; first | omega | exact Nat.le_refl _⟩, by repeat (first | exact Drawn0.refl _ | apply Drawn0.step)⟩
                    · rw [if_neg c8] at H
                      exact absurd H (by simp)
                  · rw [if_neg c7] at H
                    have c7b0 : decide (x5_3 < (x0_1.size : Int)) = false := decide_eq_false c7
                    clear c7
                    (first | rw [c7b0] | (simp only [i64_w, i32_w]; rw [c7b0]) | skip)
                    by_cases c15 : x5_3 < (x1_1.size : Int)
                    · rw [if_pos c15] at H
                      have c15b0 : decide (x5_3 < (x1_1.size : Int)) = true := decide_eq_true c15
                      clear c15
                      by_cases c16 : 0 ≤ x5_3
                      · rw [if_pos c16] at H
                        have c16b0 : decide (0 ≤ x5_3) = true := decide_eq_true c16
                        clear c16
                        replace H := Option.bind_eq_some_iff.mp H
                        obtain ⟨t122, A180, H⟩ := H
                        replace H : (spec_debParts.j3 k3 x0_1 x1_1 x5_3 (!t122)) = some r := H
                        have A18 := Aside0.mk A180
                        clear A180
                        have H' := Aside0.mk H
                        clear H
                        have p17 : 0 ≤ (x5_3 : Int) := of_decide_eq_true (by first | (with_reducible assumption) | assumption)
                        have q17 : x5_3 < (x1_1.size : Int) := of_decide_eq_true (by first | (with_reducible assumption) | assumption)
                        have hx17 := bt_at x1_1 x5_3
                        replace p17 := eq_true p17
                        replace q17 := eq_true q17
                        go_wp2_with (first | (go_at_call 15; (with_reducible refine (spec_isDigit.calls (bt x1_1 x5_3) t122 _ A18.out).mono ?_); rintro e w' ⟨rfl, ⟨nd, rfl⟩⟩; (try first | exact ⟨rfl, _, World.drewN_drewN _ _ _⟩ | exact ⟨rfl, _, Eq.trans (World.drewN_drewN _ _ _) (congrArg (World.drewN _) (Nat.add_assoc _ _ _))⟩)))
                        repeat (go_quiet (first | (go_at_call 15; (with_reducible refine (spec_isDigit.calls (bt x1_1 x5_3) t122 _ A18.out).mono ?_); rintro e w' ⟨rfl, ⟨nd, rfl⟩⟩; (try first | exact ⟨rfl, _, World.drewN_drewN _ _ _⟩ | exact ⟨rfl, _, Eq.trans (World.drewN_drewN _ _ _) (congrArg (World.drewN _) (Nat.add_assoc _ _ _))⟩))); try go_wp2_with (first | (go_at_call 15; (with_reducible refine (spec_isDigit.calls (bt x1_1 x5_3) t122 _ A18.out).mono ?_); rintro e w' ⟨rfl, ⟨nd, rfl⟩⟩; (try first | exact ⟨rfl, _, World.drewN_drewN _ _ _⟩ | exact ⟨rfl, _, Eq.trans (World.drewN_drewN _ _ _) (congrArg (World.drewN _) (Nat.add_assoc _ _ _))⟩))))
                        go_meet
                        case rel => exact ⟨_, (!t122), (by first | rfl | (simp; done) | (simp [*]; done) | (simp [bne_nil_]; done)), H', ⟨by have := HK1.out; have := HJ2.out; have := HK3.out; first | omega | exact Nat.le_refl _⟩, by repeat (first | exact Drawn0.refl _ | apply Drawn0.step)⟩
                      · rw [if_neg c16] at H
                        exact absurd H (by simp)
                    · rw [if_neg c15] at H
                      have c15b0 : decide (x5_3 < (x1_1.size : Int)) = false := decide_eq_false c15
                      clear c15
                      have H' := Aside0.mk H
                      clear H
                      go_wp2
                      repeat (go_quiet (fail); try go_wp2)
                      go_meet
                      case rel => exact ⟨_, (false), (by first | rfl | (simp; done) | (simp [*]; done) | (simp [bne_nil_]; done)), H', ⟨by have := HK1.out; have := HJ2.out; have := HK3.out; first | omega | exact Nat.le_refl _⟩, by repeat (first | exact Drawn0.refl _ | apply Drawn0.step)⟩
                case rest =>
                  clear HC6
                  try clear c1
                  try clear p1
                  try clear q1
                  try clear hx1
                  try clear c2
                  try clear p2
                  try clear c4
                  try clear c4b0
                  try clear c4b1
                  try clear c5
                  try clear c7
                  try clear c7b0
                  try clear c8
                  try clear c8b0
                  try clear p9
                  try clear q9
                  try clear hx9
                  try clear c11
                  try clear c12
                  try clear c12b0
                  try clear p13
                  try clear q13
                  try clear hx13
                  try clear c15
                  try clear c15b0
                  try clear c16
                  try clear c16b0
                  try clear p17
                  try clear q17
                  try clear hx17
                  try clear p13
                  try clear p17
                  try clear p2
                  try clear p9
                  try clear q13
                  try clear q17
                  try clear q9
                  obtain ⟨kq, x41_5, rfl, HA, HJ5, ⟨mc5, rfl⟩⟩ := hcut
                  cases kq with
                  | zero => exact absurd HA.out (by simp [spec_debParts.j3])
                  | succ kj5 =>
                    have H := HA.out
                    clear HA
                    simp only [spec_debParts.j3] at H
                    by_cases c19 : x41_5 = true
                    · subst c19
                      have H1 : ((spec_debWeight.f kj5 x0_1 x5_3).bind fun t123 => ((spec_debWeight.f kj5 x1_1 x5_3).bind fun t124 => ((spec_orderInts.f t123 t124).bind fun t125 => (if t125 = 0 then (spec_debParts.l1 kj5 x0_1 x1_1 (wrap64 (x5_3 + 1))) else (some t125))))) = some r := by rw [if_pos rfl] at H; exact H
                      clear H
                      have H := H1
                      clear H1
                      replace H := Option.bind_eq_some_iff.mp H
                      obtain ⟨t123, A200, H⟩ := H
                      replace H : ((spec_debWeight.f kj5 x1_1 x5_3).bind fun t124 => ((spec_orderInts.f t123 t124).bind fun t125 => (if t125 = 0 then (spec_debParts.l1 kj5 x0_1 x1_1 (wrap64 (x5_3 + 1))) else (some t125)))) = some r := H
                      have A20 := Aside0.mk A200
                      clear A200
                      replace H := Option.bind_eq_some_iff.mp H
                      obtain ⟨t124, A210, H⟩ := H
                      replace H : ((spec_orderInts.f t123 t124).bind fun t125 => (if t125 = 0 then (spec_debParts.l1 kj5 x0_1 x1_1 (wrap64 (x5_3 + 1))) else (some t125))) = some r := H
                      have A21 := Aside0.mk A210
                      clear A210
                      replace H := Option.bind_eq_some_iff.mp H
                      obtain ⟨t125, A220, H⟩ := H
                      replace H : (if t125 = 0 then (spec_debParts.l1 kj5 x0_1 x1_1 (wrap64 (x5_3 + 1))) else (some t125)) = some r := H
                      have A22 := Aside0.mk A220
                      clear A220
                      by_cases c23 : t125 = 0
                      · rw [if_pos c23] at H
                        have c23b0 : (t125 == 0) = true := beq_iff_eq.mpr c23
                        have c23b1 : (t125 != 0) = false := bne_eq_false_iff_eq.mpr c23
                        clear c23
                        have H' := Aside0.mk H
                        clear H
                        go_wp2_with (first | (go_at_call 17; (with_reducible refine (spec_debWeight.calls kj5 x0_1 x5_3 t123 _ A20.out).mono ?_); rintro e w' ⟨rfl, ⟨nd, rfl⟩⟩; (try first | exact ⟨rfl, _, World.drewN_drewN _ _ _⟩ | exact ⟨rfl, _, Eq.trans (World.drewN_drewN _ _ _) (congrArg (World.drewN _) (Nat.add_assoc _ _ _))⟩)) | (go_at_call 17; (with_reducible refine (spec_debWeight.calls kj5 x1_1 x5_3 t124 _ A21.out).mono ?_); rintro e w' ⟨rfl, ⟨nd, rfl⟩⟩; (try first | exact ⟨rfl, _, World.drewN_drewN _ _ _⟩ | exact ⟨rfl, _, Eq.trans (World.drewN_drewN _ _ _) (congrArg (World.drewN _) (Nat.add_assoc _ _ _))⟩)) | (go_at_call 16; (with_reducible refine (spec_orderInts.calls t123 t124 t125 _ A22.out).mono ?_); rintro e w' ⟨rfl, ⟨nd, rfl⟩⟩; (try first | exact ⟨rfl, _, World.drewN_drewN _ _ _⟩ | exact ⟨rfl, _, Eq.trans (World.drewN_drewN _ _ _) (congrArg (World.drewN _) (Nat.add_assoc _ _ _))⟩)))
                        repeat (go_quiet (first | (go_at_call 17; (with_reducible refine (spec_debWeight.calls kj5 x0_1 x5_3 t123 _ A20.out).mono ?_); rintro e w' ⟨rfl, ⟨nd, rfl⟩⟩; (try first | exact ⟨rfl, _, World.drewN_drewN _ _ _⟩ | exact ⟨rfl, _, Eq.trans (World.drewN_drewN _ _ _) (congrArg (World.drewN _) (Nat.add_assoc _ _ _))⟩)) | (go_at_call 17; (with_reducible refine (spec_debWeight.calls kj5 x1_1 x5_3 t124 _ A21.out).mono ?_); rintro e w' ⟨rfl, ⟨nd, rfl⟩⟩; (try first | exact ⟨rfl, _, World.drewN_drewN _ _ _⟩ | exact ⟨rfl, _, Eq.trans (World.drewN_drewN _ _ _) (congrArg (World.drewN _) (Nat.add_assoc _ _ _))⟩)) | (go_at_call 16; (with_reducible refine (spec_orderInts.calls t123 t124 t125 _ A22.out).mono ?_); rintro e w' ⟨rfl, ⟨nd, rfl⟩⟩; (try first | exact ⟨rfl, _, World.drewN_drewN _ _ _⟩ | exact ⟨rfl, _, Eq.trans (World.drewN_drewN _ _ _) (congrArg (World.drewN _) (Nat.add_assoc _ _ _))⟩))); try go_wp2_with (first | (go_at_call 17; (with_reducible refine (spec_debWeight.calls kj5 x0_1 x5_3 t123 _ A20.out).mono ?_); rintro e w' ⟨rfl, ⟨nd, rfl⟩⟩; (try first | exact ⟨rfl, _, World.drewN_drewN _ _ _⟩ | exact ⟨rfl, _, Eq.trans (World.drewN_drewN _ _ _) (congrArg (World.drewN _) (Nat.add_assoc _ _ _))⟩)) | (go_at_call 17; (with_reducible refine (spec_debWeight.calls kj5 x1_1 x5_3 t124 _ A21.out).mono ?_); rintro e w' ⟨rfl, ⟨nd, rfl⟩⟩; (try first | exact ⟨rfl, _, World.drewN_drewN _ _ _⟩ | exact ⟨rfl, _, Eq.trans (World.drewN_drewN _ _ _) (congrArg (World.drewN _) (Nat.add_assoc _ _ _))⟩)) | (go_at_call 16; (with_reducible refine (spec_orderInts.calls t123 t124 t125 _ A22.out).mono ?_); rintro e w' ⟨rfl, ⟨nd, rfl⟩⟩; (try first | exact ⟨rfl, _, World.drewN_drewN _ _ _⟩ | exact ⟨rfl, _, Eq.trans (World.drewN_drewN _ _ _) (congrArg (World.drewN _) (Nat.add_assoc _ _ _))⟩))))
                        go_roundg kj5
                        case measure => have := HK1.out; have := HJ2.out; have := HK3.out; have := HJ5.out; omega
                        case rel => exact ⟨(wrap64 (x5_3 + 1)), (by first | rfl | (simp; done) | (simp [*]; done) | (simp [bne_nil_]; done)), H', ⟨by have := HK1.out; have := HJ2.out; have := HK3.out; have := HJ5.out; omega⟩, by repeat (first | exact Drawn0.refl _ | apply Drawn0.step)⟩
                      · rw [if_neg c23] at H
                        have c23b0 : (t125 == 0) = false := beq_eq_false_iff_ne.mpr c23
                        have c23b1 : (t125 != 0) = true := bne_iff_ne.mpr c23
                        obtain rfl := Option.some.inj H
                        go_wp2_with (first | (go_at_call 17; (with_reducible refine (spec_debWeight.calls kj5 x0_1 x5_3 t123 _ A20.out).mono ?_); rintro e w' ⟨rfl, ⟨nd, rfl⟩⟩; (try first | exact ⟨rfl, _, World.drewN_drewN _ _ _⟩ | exact ⟨rfl, _, Eq.trans (World.drewN_drewN _ _ _) (congrArg (World.drewN _) (Nat.add_assoc _ _ _))⟩)) | (go_at_call 17; (with_reducible refine (spec_debWeight.calls kj5 x1_1 x5_3 t124 _ A21.out).mono ?_); rintro e w' ⟨rfl, ⟨nd, rfl⟩⟩; (try first | exact ⟨rfl, _, World.drewN_drewN _ _ _⟩ | exact ⟨rfl, _, Eq.trans (World.drewN_drewN _ _ _) (congrArg (World.drewN _) (Nat.add_assoc _ _ _))⟩)) | (go_at_call 16; (with_reducible refine (spec_orderInts.calls t123 t124 t125 _ A22.out).mono ?_); rintro e w' ⟨rfl, ⟨nd, rfl⟩⟩; (try first | exact ⟨rfl, _, World.drewN_drewN _ _ _⟩ | exact ⟨rfl, _, Eq.trans (World.drewN_drewN _ _ _) (congrArg (World.drewN _) (Nat.add_assoc _ _ _))⟩)))
                        repeat (go_quiet (first | (go_at_call 17; (with_reducible refine (spec_debWeight.calls kj5 x0_1 x5_3 t123 _ A20.out).mono ?_); rintro e w' ⟨rfl, ⟨nd, rfl⟩⟩; (try first | exact ⟨rfl, _, World.drewN_drewN _ _ _⟩ | exact ⟨rfl, _, Eq.trans (World.drewN_drewN _ _ _) (congrArg (World.drewN _) (Nat.add_assoc _ _ _))⟩)) | (go_at_call 17; (with_reducible refine (spec_debWeight.calls kj5 x1_1 x5_3 t124 _ A21.out).mono ?_); rintro e w' ⟨rfl, ⟨nd, rfl⟩⟩; (try first | exact ⟨rfl, _, World.drewN_drewN _ _ _⟩ | exact ⟨rfl, _, Eq.trans (World.drewN_drewN _ _ _) (congrArg (World.drewN _) (Nat.add_assoc _ _ _))⟩)) | (go_at_call 16; (with_reducible refine (spec_orderInts.calls t123 t124 t125 _ A22.out).mono ?_); rintro e w' ⟨rfl, ⟨nd, rfl⟩⟩; (try first | exact ⟨rfl, _, World.drewN_drewN _ _ _⟩ | exact ⟨rfl, _, Eq.trans (World.drewN_drewN _ _ _) (congrArg (World.drewN _) (Nat.add_assoc _ _ _))⟩))); try go_wp2_with (first | (go_at_call 17; (with_reducible refine (spec_debWeight.calls kj5 x0_1 x5_3 t123 _ A20.out).mono ?_); rintro e w' ⟨rfl, ⟨nd, rfl⟩⟩; (try first | exact ⟨rfl, _, World.drewN_drewN _ _ _⟩ | exact ⟨rfl, _, Eq.trans (World.drewN_drewN _ _ _) (congrArg (World.drewN _) (Nat.add_assoc _ _ _))⟩)) | (go_at_call 17; (with_reducible refine (spec_debWeight.calls kj5 x1_1 x5_3 t124 _ A21.out).mono ?_); rintro e w' ⟨rfl, ⟨nd, rfl⟩⟩; (try first | exact ⟨rfl, _, World.drewN_drewN _ _ _⟩ | exact ⟨rfl, _, Eq.trans (World.drewN_drewN _ _ _) (congrArg (World.drewN _) (Nat.add_assoc _ _ _))⟩)) | (go_at_call 16; (with_reducible refine (spec_orderInts.calls t123 t124 t125 _ A22.out).mono ?_); rintro e w' ⟨rfl, ⟨nd, rfl⟩⟩; (try first | exact ⟨rfl, _, World.drewN_drewN _ _ _⟩ | exact ⟨rfl, _, Eq.trans (World.drewN_drewN _ _ _) (congrArg (World.drewN _) (Nat.add_assoc _ _ _))⟩))))
                        go_ret
                        exact ⟨by first | rfl | (simp; done) | (simp [*]; done) | (simp [bne_nil_]; done), by repeat (first | exact Drawn0.refl _ | apply Drawn0.step)⟩
                    · replace c19 := Bool.eq_false_iff.mpr c19
                      subst c19
                      have H1 : (if 0 ≤ x5_3 then (if x5_3 ≤ (x0_1.size : Int) then (if x5_3 ≤ (x1_1.size : Int) then ((spec_debRun.f kj5 (x0_1.extract (x5_3 : Int).toNat x0_1.size)).bind fun t126 => ((spec_debRun.f kj5 (x1_1.extract (x5_3 : Int).toNat x1_1.size)).bind fun t127 => (if 0 ≤ t126 then (if t126 ≤ ((x0_1.extract (x5_3 : Int).toNat x0_1.size).size : Int) then (if 0 ≤ t127 then (if t127 ≤ ((x1_1.extract (x5_3 : Int).toNat x1_1.size).size : Int) then ((spec_orderNumbers.f kj5 ((x0_1.extract (x5_3 : Int).toNat x0_1.size).extract 0 (t126 : Int).toNat) ((x1_1.extract (x5_3 : Int).toNat x1_1.size).extract 0 (t127 : Int).toNat)).bind fun t128 => (if t128 = 0 then (spec_debParts.l0 kj5 ((x0_1.extract (x5_3 : Int).toNat x0_1.size).extract (t126 : Int).toNat (x0_1.size - (x5_3 : Int).toNat)) ((x1_1.extract (x5_3 : Int).toNat x1_1.size).extract (t127 : Int).toNat (x1_1.size - (x5_3 : Int).toNat))) else (some t128))) else (none)) else (none)) else (none)) else (none)))) else (none)) else (none)) else (none)) = some r := by rw [if_neg (show ¬ (false = true) by decide)] at H; exact H
                      clear H
                      have H := H1
                      clear H1
                      by_cases c24 : 0 ≤ x5_3
                      · rw [if_pos c24] at H
                        have c24b0 := eq_true c24
                        have c24b1 : decide (0 ≤ x5_3) = true := decide_eq_true c24
                        clear c24
                        by_cases c25 : x5_3 ≤ (x0_1.size : Int)
                        · rw [if_pos c25] at H
                          have c25b0 := eq_true c25
                          have c25b1 : decide (x5_3 ≤ (x0_1.size : Int)) = true := decide_eq_true c25
                          clear c25
                          have c26b0 := eq_true (of_decide_eq_true (by first | (with_reducible assumption) | assumption) : 0 ≤ x5_3)
                          by_cases c27 : x5_3 ≤ (x1_1.size : Int)
                          · rw [if_pos c27] at H
                            have c27b0 := eq_true c27
                            have c27b1 : decide (x5_3 ≤ (x1_1.size : Int)) = true := decide_eq_true c27
                            clear c27
                            replace H := Option.bind_eq_some_iff.mp H
                            obtain ⟨t126, A280, H⟩ := H
                            replace H : ((spec_debRun.f kj5 (x1_1.extract (x5_3 : Int).toNat x1_1.size)).bind fun t127 => (if 0 ≤ t126 then (if t126 ≤ ((x0_1.extract (x5_3 : Int).toNat x0_1.size).size : Int) then (if 0 ≤ t127 then (if t127 ≤ ((x1_1.extract (x5_3 : Int).toNat x1_1.size).size : Int) then ((spec_orderNumbers.f kj5 ((x0_1.extract (x5_3 : Int).toNat x0_1.size).extract 0 (t126 : Int).toNat) ((x1_1.extract (x5_3 : Int).toNat x1_1.size).extract 0 (t127 : Int).toNat)).bind fun t128 => (if t128 = 0 then (spec_debParts.l0 kj5 ((x0_1.extract (x5_3 : Int).toNat x0_1.size).extract (t126 : Int).toNat (x0_1.size - (x5_3 : Int).toNat)) ((x1_1.extract (x5_3 : Int).toNat x1_1.size).extract (t127 : Int).toNat (x1_1.size - (x5_3 : Int).toNat))) else (some t128))) else (none)) else (none)) else (none)) else (none))) = some r := H
                            have A28 := Aside0.mk A280
                            clear A280
                            replace H := Option.bind_eq_some_iff.mp H
                            obtain ⟨t127, A290, H⟩ := H
                            replace H : (if 0 ≤ t126 then (if t126 ≤ ((x0_1.extract (x5_3 : Int).toNat x0_1.size).size : Int) then (if 0 ≤ t127 then (if t127 ≤ ((x1_1.extract (x5_3 : Int).toNat x1_1.size).size : Int) then ((spec_orderNumbers.f kj5 ((x0_1.extract (x5_3 : Int).toNat x0_1.size).extract 0 (t126 : Int).toNat) ((x1_1.extract (x5_3 : Int).toNat x1_1.size).extract 0 (t127 : Int).toNat)).bind fun t128 => (if t128 = 0 then (spec_debParts.l0 kj5 ((x0_1.extract (x5_3 : Int).toNat x0_1.size).extract (t126 : Int).toNat (x0_1.size - (x5_3 : Int).toNat)) ((x1_1.extract (x5_3 : Int).toNat x1_1.size).extract (t127 : Int).toNat (x1_1.size - (x5_3 : Int).toNat))) else (some t128))) else (none)) else (none)) else (none)) else (none)) = some r := H
                            have A29 := Aside0.mk A290
                            clear A290
                            by_cases c30 : 0 ≤ t126
                            · rw [if_pos c30] at H
                              have c30b0 := eq_true c30
                              have c30b1 : decide (0 ≤ t126) = true := decide_eq_true c30
                              clear c30
                              by_cases c31 : t126 ≤ ((x0_1.extract (x5_3 : Int).toNat x0_1.size).size : Int)
                              · rw [if_pos c31] at H
                                have c31b0 := eq_true c31
                                have c31b1 : decide (t126 ≤ ((x0_1.extract (x5_3 : Int).toNat x0_1.size).size : Int)) = true := decide_eq_true c31
                                (try (have c31bz := c31; simp only [ByteArray.size_extract, Nat.min_self] at c31bz; replace c31bz := eq_true c31bz))
                                clear c31
                                by_cases c32 : 0 ≤ t127
                                · rw [if_pos c32] at H
                                  have c32b0 := eq_true c32
                                  have c32b1 : decide (0 ≤ t127) = true := decide_eq_true c32
                                  clear c32
                                  by_cases c33 : t127 ≤ ((x1_1.extract (x5_3 : Int).toNat x1_1.size).size : Int)
                                  · rw [if_pos c33] at H
                                    have c33b0 := eq_true c33
                                    have c33b1 : decide (t127 ≤ ((x1_1.extract (x5_3 : Int).toNat x1_1.size).size : Int)) = true := decide_eq_true c33
                                    (try (have c33bz := c33; simp only [ByteArray.size_extract, Nat.min_self] at c33bz; replace c33bz := eq_true c33bz))
                                    clear c33
                                    replace H := Option.bind_eq_some_iff.mp H
                                    obtain ⟨t128, A340, H⟩ := H
                                    replace H : (if t128 = 0 then (spec_debParts.l0 kj5 ((x0_1.extract (x5_3 : Int).toNat x0_1.size).extract (t126 : Int).toNat (x0_1.size - (x5_3 : Int).toNat)) ((x1_1.extract (x5_3 : Int).toNat x1_1.size).extract (t127 : Int).toNat (x1_1.size - (x5_3 : Int).toNat))) else (some t128)) = some r := H
                                    have A34 := Aside0.mk A340
                                    clear A340
                                    by_cases c35 : t128 = 0
                                    · rw [if_pos c35] at H
                                      have c35b0 : (t128 == 0) = true := beq_iff_eq.mpr c35
                                      have c35b1 : (t128 != 0) = false := bne_eq_false_iff_eq.mpr c35
                                      clear c35
                                      have c36b0 := eq_true (of_decide_eq_true (by first | (with_reducible assumption) | assumption) : 0 ≤ t126)
                                      have c37b0 := eq_true (of_decide_eq_true (by first | (with_reducible assumption) | assumption) : t126 ≤ ((x0_1.extract (x5_3 : Int).toNat x0_1.size).size : Int))
                                      have c38b0 := eq_true (of_decide_eq_true (by first | (with_reducible assumption) | assumption) : 0 ≤ t127)
                                      have c39b0 := eq_true (of_decide_eq_true (by first | (with_reducible assumption) | assumption) : t127 ≤ ((x1_1.extract (x5_3 : Int).toNat x1_1.size).size : Int))
                                      have H' := Aside0.mk H
                                      clear H
                                      go_wp2_with (first | (go_at_call 18; (with_reducible refine (spec_debRun.calls kj5 (x0_1.extract (x5_3 : Int).toNat x0_1.size) t126 _ A28.out).mono ?_); rintro e w' ⟨rfl, ⟨nd, rfl⟩⟩; (try first | exact ⟨rfl, _, World.drewN_drewN _ _ _⟩ | exact ⟨rfl, _, Eq.trans (World.drewN_drewN _ _ _) (congrArg (World.drewN _) (Nat.add_assoc _ _ _))⟩)) | (go_at_call 18; (with_reducible refine (spec_debRun.calls kj5 (x1_1.extract (x5_3 : Int).toNat x1_1.size) t127 _ A29.out).mono ?_); rintro e w' ⟨rfl, ⟨nd, rfl⟩⟩; (try first | exact ⟨rfl, _, World.drewN_drewN _ _ _⟩ | exact ⟨rfl, _, Eq.trans (World.drewN_drewN _ _ _) (congrArg (World.drewN _) (Nat.add_assoc _ _ _))⟩)) | (go_at_call 19; (with_reducible refine (spec_orderNumbers.calls kj5 ((x0_1.extract (x5_3 : Int).toNat x0_1.size).extract 0 (t126 : Int).toNat) ((x1_1.extract (x5_3 : Int).toNat x1_1.size).extract 0 (t127 : Int).toNat) t128 _ A34.out).mono ?_); rintro e w' ⟨rfl, ⟨nd, rfl⟩⟩; (try first | exact ⟨rfl, _, World.drewN_drewN _ _ _⟩ | exact ⟨rfl, _, Eq.trans (World.drewN_drewN _ _ _) (congrArg (World.drewN _) (Nat.add_assoc _ _ _))⟩)))
                                      repeat (go_quiet (first | (go_at_call 18; (with_reducible refine (spec_debRun.calls kj5 (x0_1.extract (x5_3 : Int).toNat x0_1.size) t126 _ A28.out).mono ?_); rintro e w' ⟨rfl, ⟨nd, rfl⟩⟩; (try first | exact ⟨rfl, _, World.drewN_drewN _ _ _⟩ | exact ⟨rfl, _, Eq.trans (World.drewN_drewN _ _ _) (congrArg (World.drewN _) (Nat.add_assoc _ _ _))⟩)) | (go_at_call 18; (with_reducible refine (spec_debRun.calls kj5 (x1_1.extract (x5_3 : Int).toNat x1_1.size) t127 _ A29.out).mono ?_); rintro e w' ⟨rfl, ⟨nd, rfl⟩⟩; (try first | exact ⟨rfl, _, World.drewN_drewN _ _ _⟩ | exact ⟨rfl, _, Eq.trans (World.drewN_drewN _ _ _) (congrArg (World.drewN _) (Nat.add_assoc _ _ _))⟩)) | (go_at_call 19; (with_reducible refine (spec_orderNumbers.calls kj5 ((x0_1.extract (x5_3 : Int).toNat x0_1.size).extract 0 (t126 : Int).toNat) ((x1_1.extract (x5_3 : Int).toNat x1_1.size).extract 0 (t127 : Int).toNat) t128 _ A34.out).mono ?_); rintro e w' ⟨rfl, ⟨nd, rfl⟩⟩; (try first | exact ⟨rfl, _, World.drewN_drewN _ _ _⟩ | exact ⟨rfl, _, Eq.trans (World.drewN_drewN _ _ _) (congrArg (World.drewN _) (Nat.add_assoc _ _ _))⟩))); try go_wp2_with (first | (go_at_call 18; (with_reducible refine (spec_debRun.calls kj5 (x0_1.extract (x5_3 : Int).toNat x0_1.size) t126 _ A28.out).mono ?_); rintro e w' ⟨rfl, ⟨nd, rfl⟩⟩; (try first | exact ⟨rfl, _, World.drewN_drewN _ _ _⟩ | exact ⟨rfl, _, Eq.trans (World.drewN_drewN _ _ _) (congrArg (World.drewN _) (Nat.add_assoc _ _ _))⟩)) | (go_at_call 18; (with_reducible refine (spec_debRun.calls kj5 (x1_1.extract (x5_3 : Int).toNat x1_1.size) t127 _ A29.out).mono ?_); rintro e w' ⟨rfl, ⟨nd, rfl⟩⟩; (try first | exact ⟨rfl, _, World.drewN_drewN _ _ _⟩ | exact ⟨rfl, _, Eq.trans (World.drewN_drewN _ _ _) (congrArg (World.drewN _) (Nat.add_assoc _ _ _))⟩)) | (go_at_call 19; (with_reducible refine (spec_orderNumbers.calls kj5 ((x0_1.extract (x5_3 : Int).toNat x0_1.size).extract 0 (t126 : Int).toNat) ((x1_1.extract (x5_3 : Int).toNat x1_1.size).extract 0 (t127 : Int).toNat) t128 _ A34.out).mono ?_); rintro e w' ⟨rfl, ⟨nd, rfl⟩⟩; (try first | exact ⟨rfl, _, World.drewN_drewN _ _ _⟩ | exact ⟨rfl, _, Eq.trans (World.drewN_drewN _ _ _) (congrArg (World.drewN _) (Nat.add_assoc _ _ _))⟩))))
                                      go_roundg kj5
                                      case measure => have := HK1.out; have := HJ2.out; have := HK3.out; have := HJ5.out; omega
                                      case rel => exact ⟨((x0_1.extract (x5_3 : Int).toNat x0_1.size).extract (t126 : Int).toNat (x0_1.size - (x5_3 : Int).toNat)), ((x1_1.extract (x5_3 : Int).toNat x1_1.size).extract (t127 : Int).toNat (x1_1.size - (x5_3 : Int).toNat)), (by first | rfl | (simp; done) | (simp [*]; done) | (simp [bne_nil_]; done)), (by first | rfl | (simp; done) | (simp [*]; done) | (simp [bne_nil_]; done)), H', ⟨by have := HK1.out; have := HJ2.out; have := HK3.out; have := HJ5.out; omega⟩, by repeat (first | exact Drawn0.refl _ | apply Drawn0.step)⟩
                                    · rw [if_neg c35] at H
                                      have c35b0 : (t128 == 0) = false := beq_eq_false_iff_ne.mpr c35
                                      have c35b1 : (t128 != 0) = true := bne_iff_ne.mpr c35
                                      obtain rfl := Option.some.inj H
                                      go_wp2_with (first | (go_at_call 18; (with_reducible refine (spec_debRun.calls kj5 (x0_1.extract (x5_3 : Int).toNat x0_1.size) t126 _ A28.out).mono ?_); rintro e w' ⟨rfl, ⟨nd, rfl⟩⟩; (try first | exact ⟨rfl, _, World.drewN_drewN _ _ _⟩ | exact ⟨rfl, _, Eq.trans (World.drewN_drewN _ _ _) (congrArg (World.drewN _) (Nat.add_assoc _ _ _))⟩)) | (go_at_call 18; (with_reducible refine (spec_debRun.calls kj5 (x1_1.extract (x5_3 : Int).toNat x1_1.size) t127 _ A29.out).mono ?_); rintro e w' ⟨rfl, ⟨nd, rfl⟩⟩; (try first | exact ⟨rfl, _, World.drewN_drewN _ _ _⟩ | exact ⟨rfl, _, Eq.trans (World.drewN_drewN _ _ _) (congrArg (World.drewN _) (Nat.add_assoc _ _ _))⟩)) | (go_at_call 19; (with_reducible refine (spec_orderNumbers.calls kj5 ((x0_1.extract (x5_3 : Int).toNat x0_1.size).extract 0 (t126 : Int).toNat) ((x1_1.extract (x5_3 : Int).toNat x1_1.size).extract 0 (t127 : Int).toNat) t128 _ A34.out).mono ?_); rintro e w' ⟨rfl, ⟨nd, rfl⟩⟩; (try first | exact ⟨rfl, _, World.drewN_drewN _ _ _⟩ | exact ⟨rfl, _, Eq.trans (World.drewN_drewN _ _ _) (congrArg (World.drewN _) (Nat.add_assoc _ _ _))⟩)))
                                      repeat (go_quiet (first | (go_at_call 18; (with_reducible refine (spec_debRun.calls kj5 (x0_1.extract (x5_3 : Int).toNat x0_1.size) t126 _ A28.out).mono ?_); rintro e w' ⟨rfl, ⟨nd, rfl⟩⟩; (try first | exact ⟨rfl, _, World.drewN_drewN _ _ _⟩ | exact ⟨rfl, _, Eq.trans (World.drewN_drewN _ _ _) (congrArg (World.drewN _) (Nat.add_assoc _ _ _))⟩)) | (go_at_call 18; (with_reducible refine (spec_debRun.calls kj5 (x1_1.extract (x5_3 : Int).toNat x1_1.size) t127 _ A29.out).mono ?_); rintro e w' ⟨rfl, ⟨nd, rfl⟩⟩; (try first | exact ⟨rfl, _, World.drewN_drewN _ _ _⟩ | exact ⟨rfl, _, Eq.trans (World.drewN_drewN _ _ _) (congrArg (World.drewN _) (Nat.add_assoc _ _ _))⟩)) | (go_at_call 19; (with_reducible refine (spec_orderNumbers.calls kj5 ((x0_1.extract (x5_3 : Int).toNat x0_1.size).extract 0 (t126 : Int).toNat) ((x1_1.extract (x5_3 : Int).toNat x1_1.size).extract 0 (t127 : Int).toNat) t128 _ A34.out).mono ?_); rintro e w' ⟨rfl, ⟨nd, rfl⟩⟩; (try first | exact ⟨rfl, _, World.drewN_drewN _ _ _⟩ | exact ⟨rfl, _, Eq.trans (World.drewN_drewN _ _ _) (congrArg (World.drewN _) (Nat.add_assoc _ _ _))⟩))); try go_wp2_with (first | (go_at_call 18; (with_reducible refine (spec_debRun.calls kj5 (x0_1.extract (x5_3 : Int).toNat x0_1.size) t126 _ A28.out).mono ?_); rintro e w' ⟨rfl, ⟨nd, rfl⟩⟩; (try first | exact ⟨rfl, _, World.drewN_drewN _ _ _⟩ | exact ⟨rfl, _, Eq.trans (World.drewN_drewN _ _ _) (congrArg (World.drewN _) (Nat.add_assoc _ _ _))⟩)) | (go_at_call 18; (with_reducible refine (spec_debRun.calls kj5 (x1_1.extract (x5_3 : Int).toNat x1_1.size) t127 _ A29.out).mono ?_); rintro e w' ⟨rfl, ⟨nd, rfl⟩⟩; (try first | exact ⟨rfl, _, World.drewN_drewN _ _ _⟩ | exact ⟨rfl, _, Eq.trans (World.drewN_drewN _ _ _) (congrArg (World.drewN _) (Nat.add_assoc _ _ _))⟩)) | (go_at_call 19; (with_reducible refine (spec_orderNumbers.calls kj5 ((x0_1.extract (x5_3 : Int).toNat x0_1.size).extract 0 (t126 : Int).toNat) ((x1_1.extract (x5_3 : Int).toNat x1_1.size).extract 0 (t127 : Int).toNat) t128 _ A34.out).mono ?_); rintro e w' ⟨rfl, ⟨nd, rfl⟩⟩; (try first | exact ⟨rfl, _, World.drewN_drewN _ _ _⟩ | exact ⟨rfl, _, Eq.trans (World.drewN_drewN _ _ _) (congrArg (World.drewN _) (Nat.add_assoc _ _ _))⟩))))
                                      go_ret
                                      exact ⟨by first | rfl | (simp; done) | (simp [*]; done) | (simp [bne_nil_]; done), by repeat (first | exact Drawn0.refl _ | apply Drawn0.step)⟩
                                  · rw [if_neg c33] at H
                                    exact absurd H (by simp)
                                · rw [if_neg c32] at H
                                  exact absurd H (by simp)
                              · rw [if_neg c31] at H
                                exact absurd H (by simp)
                            · rw [if_neg c30] at H
                              exact absurd H (by simp)
                          · rw [if_neg c27] at H
                            exact absurd H (by simp)
                        · rw [if_neg c25] at H
                          exact absurd H (by simp)
                      · rw [if_neg c24] at H
                        exact absurd H (by simp)
          · replace c5 := Bool.eq_false_iff.mpr c5
            subst c5
            have H1 : (some 0) = some r := by rw [if_neg (show ¬ (false = true) by decide)] at H; exact H
            clear H
            have H := H1
            clear H1
            obtain rfl := Option.some.inj H
            go_wp2
            repeat (go_quiet (fail); try go_wp2)
            go_ret
            exact ⟨by first | rfl | (simp; done) | (simp [*]; done) | (simp [bne_nil_]; done), by repeat (first | exact Drawn0.refl _ | apply Drawn0.step)⟩

/-! ### spec_DebianParts: function 6 -/
def spec_DebianParts.f (k : Nat) (a0 : ByteArray) (a1 : ByteArray) : Option (Int × Bool) := (spec_debParts.f k a0 a1).bind fun t129 => (some (t129, true))
theorem spec_DebianParts.mono : ∀ a0 a1 k, LeO (spec_DebianParts.f k a0 a1) (spec_DebianParts.f (k + 1) a0 a1) := by
  intro a0 a1 k
  unfold spec_DebianParts.f
  repeat' first
      | (with_reducible exact spec_debParts.mono _ _ _)
      | (with_reducible exact LeO.refl _)
      | (with_reducible exact LeO.none _)
      | (with_reducible refine LeO.ite ?_ ?_)
      | (with_reducible refine LeO.bind ?_ (fun _ => ?_))
      | exact spec_debParts.mono _ _ _
      | exact LeO.none _
      | refine LeO.ite ?_ ?_
      | refine LeO.bind ?_ (fun _ => ?_)
set_option maxHeartbeats 8000000 in
set_option maxRecDepth 100000 in
theorem spec_DebianParts.calls (k : Nat) (a0 : ByteArray) (a1 : ByteArray) (r1 : Int) (r2 : Bool) (w : World) (h : spec_DebianParts.f k a0 a1 = some (r1, r2)) :
    Calls Tryd.prog 6 #[.string a0, .string a1] w fun e w' => e = .returned (.tuple #[.int .i64 r1, .bool r2]) ∧ Drawn0 w w' := by
  have H : ((spec_debParts.f k a0 a1).bind fun t129 => (some (t129, true))) = some (r1, r2) := h
  clear h
  replace H := Option.bind_eq_some_iff.mp H
  obtain ⟨t129, A30, H⟩ := H
  replace H : (some (t129, true)) = some (r1, r2) := H
  have A3 := Aside0.mk A30
  clear A30
  simp only [Option.some.injEq, Prod.mk.injEq] at H
  obtain ⟨rfl, rfl⟩ := H
  go_enter Tryd.func6, Tryd.ntmps6
  go_wp2_with (first | ((with_reducible refine gate_callee (f := 12) rfl ?_); refine goesL_ (some 8) rfl rfl Tryd.func12 (by kernel_rfl) rfl #[.string a0, .string a1] rfl (by (try simp only [List.map_toArray, List.map_cons, List.map_nil]); first | done | rfl | (simp only [List.length_drop, List.length_take]; rfl)) ?_; (with_reducible refine (spec_debParts.calls k a0 a1 t129 _ A3.out).mono ?_); rintro e w' ⟨rfl, ⟨nd, rfl⟩⟩; refine ⟨_, rfl, ?_⟩))
  go_ret2
  exact ⟨by first | rfl | (simp; done) | (simp [*]; done) | (simp [bne_nil_]; done), by repeat (first | exact Drawn0.refl _ | apply Drawn0.step)⟩

-- LEFT OUT: function 29

-- LEFT OUT: function 23

-- LEFT OUT: function 30

-- LEFT OUT: function 24

-- LEFT OUT: function 25

-- LEFT OUT: function 26

-- NOT PRINTED: function 36 (strings_indexFunc)

-- NOT PRINTED: function 31 (strings_IndexFunc)

-- LEFT OUT: function 33

-- LEFT OUT: function 41

-- LEFT OUT: function 43

-- LEFT OUT: function 47

-- LEFT OUT: function 50

-- LEFT OUT: function 49

-- LEFT OUT: function 61

-- LEFT OUT: function 62

-- LEFT OUT: function 59

-- LEFT OUT: function 63

-- LEFT OUT: function 64

-- LEFT OUT: function 60

-- LEFT OUT: function 58

-- LEFT OUT: function 56

-- LEFT OUT: function 51

-- LEFT OUT: function 44

-- LEFT OUT: function 45

-- LEFT OUT: function 46

-- LEFT OUT: function 52

-- LEFT OUT: function 53

-- LEFT OUT: function 54

-- LEFT OUT: function 57

-- LEFT OUT: function 55

-- LEFT OUT: function 48

-- LEFT OUT: function 42

-- LEFT OUT: function 40

-- LEFT OUT: function 38

-- LEFT OUT: function 39

-- LEFT OUT: function 37

-- LEFT OUT: function 34

-- LEFT OUT: function 27

-- LEFT OUT: function 35

-- LEFT OUT: function 28

-- LEFT OUT: function 20

-- LEFT OUT: function 13

-- GIVEN: function 7 (impl_DebianParts)

/-! ### laws_turned: function 8 -/
def laws_turned.f (a0 : Int) (a1 : Int) : Option (Bool) := if a0 = (wrap64 (-a1)) then (if a0 ≥ (-1) then (some (decide (a0 ≤ 1))) else (some false)) else (some false)
set_option maxHeartbeats 8000000 in
set_option maxRecDepth 100000 in
theorem laws_turned.calls (a0 : Int) (a1 : Int) (r : Bool) (w : World) (h : laws_turned.f a0 a1 = some r) :
    Calls Tryd.prog 8 #[.int .i64 a0, .int .i64 a1] w fun e w' => e = .returned (.bool r) ∧ Drawn0 w w' := by
  have H : (if a0 = (wrap64 (-a1)) then (if a0 ≥ (-1) then (some (decide (a0 ≤ 1))) else (some false)) else (some false)) = some r := h
  clear h
  by_cases c3 : a0 = (wrap64 (-a1))
  · rw [if_pos c3] at H
    have c3b0 : (a0 == (wrap64 (-a1))) = true := beq_iff_eq.mpr c3
    have c3b1 : (a0 != (wrap64 (-a1))) = false := bne_eq_false_iff_eq.mpr c3
    clear c3
    by_cases c4 : a0 ≥ (-1)
    · rw [if_pos c4] at H
      have c4b0 : decide ((-1) ≤ a0) = true := decide_eq_true c4
      clear c4
      obtain rfl := Option.some.inj H
      go_enter Tryd.func8, Tryd.ntmps8
      go_wp2
      go_ret
      exact ⟨by first | rfl | (simp; done) | (simp [*]; done) | (simp [bne_nil_]; done), by repeat (first | exact Drawn0.refl _ | apply Drawn0.step)⟩
    · rw [if_neg c4] at H
      have c4b0 : decide ((-1) ≤ a0) = false := decide_eq_false c4
      clear c4
      obtain rfl := Option.some.inj H
      go_enter Tryd.func8, Tryd.ntmps8
      go_wp2
      go_ret
      exact ⟨by first | rfl | (simp; done) | (simp [*]; done) | (simp [bne_nil_]; done), by repeat (first | exact Drawn0.refl _ | apply Drawn0.step)⟩
  · rw [if_neg c3] at H
    have c3b0 : (a0 == (wrap64 (-a1))) = false := beq_eq_false_iff_ne.mpr c3
    have c3b1 : (a0 != (wrap64 (-a1))) = true := bne_iff_ne.mpr c3
    obtain rfl := Option.some.inj H
    go_enter Tryd.func8, Tryd.ntmps8
    go_wp2
    go_ret
    exact ⟨by first | rfl | (simp; done) | (simp [*]; done) | (simp [bne_nil_]; done), by repeat (first | exact Drawn0.refl _ | apply Drawn0.step)⟩

/-! ### laws_FnDebianParts: function 3 -/
mutual
def laws_FnDebianParts.j0 : Nat → ByteArray → ByteArray → Bool → Option (Bool)
  | 0, _, _, _ => none
  | k + 1, x0, x1, x18 => if x18 = true then (some true) else ((laws_short.f k (([x0, x1] : List ByteArray))).bind fun t133 => (if t133 = true then ((spec_DebianKnown.f k x0).bind fun t134 => (if t134 = true then ((spec_DebianKnown.f k x1).bind fun t135 => (laws_FnDebianParts.j1 k x0 x1 (!t135))) else (laws_FnDebianParts.j1 k x0 x1 true))) else (laws_FnDebianParts.j1 k x0 x1 true)))
def laws_FnDebianParts.j1 : Nat → ByteArray → ByteArray → Bool → Option (Bool)
  | 0, _, _, _ => none
  | k + 1, x0, x1, x33 => if x33 = true then (some true) else ((spec_DebianParts.f k x0 x1).bind fun bt136 => ((Giv.impl_DebianParts.f x0 x1).bind fun bt138 => ((Giv.impl_DebianParts.f x1 x0).bind fun bt140 => (if bt138.1 = bt136.1 then (if (bt138.2 == bt136.2) = true then (if (bt140.2 == bt136.2) = true then ((laws_turned.f bt138.1 bt140.1).bind fun t142 => (some t142)) else (some false)) else (some false)) else (some false)))))
end
def laws_FnDebianParts.f (k : Nat) (a0 : ByteArray) (a1 : ByteArray) : Option (Bool) := if (a0.size : Int) > 2147483647 then (laws_FnDebianParts.j0 k a0 a1 true) else (laws_FnDebianParts.j0 k a0 a1 (decide ((a1.size : Int) > 2147483647)))
theorem laws_FnDebianParts.mono_l : ∀ k, (∀ y0 y1 y2, LeO (laws_FnDebianParts.j0 k y0 y1 y2) (laws_FnDebianParts.j0 (k + 1) y0 y1 y2)) ∧ (∀ y0 y1 y2, LeO (laws_FnDebianParts.j1 k y0 y1 y2) (laws_FnDebianParts.j1 (k + 1) y0 y1 y2))
  | 0 => ⟨fun _ _ _ r h => by simp [laws_FnDebianParts.j0] at h, fun _ _ _ r h => by simp [laws_FnDebianParts.j1] at h⟩
  | k + 1 => by
    obtain ⟨ih0, ih1⟩ := laws_FnDebianParts.mono_l k
    refine ⟨?_, ?_⟩
    · intro y0 y1 y2
      unfold laws_FnDebianParts.j0
      repeat' first
      | (with_reducible exact ih0 _ _ _)
      | (with_reducible exact ih1 _ _ _)
      | (with_reducible exact laws_short.mono _ _)
      | (with_reducible exact spec_DebianKnown.mono _ _)
      | (with_reducible exact spec_DebianParts.mono _ _ _)
      | (with_reducible exact LeO.refl _)
      | (with_reducible exact LeO.none _)
      | (with_reducible refine LeO.ite ?_ ?_)
      | (with_reducible refine LeO.bind ?_ (fun _ => ?_))
      | exact ih0 _ _ _
      | exact ih1 _ _ _
      | exact laws_short.mono _ _
      | exact spec_DebianKnown.mono _ _
      | exact spec_DebianParts.mono _ _ _
      | exact LeO.none _
      | refine LeO.ite ?_ ?_
      | refine LeO.bind ?_ (fun _ => ?_)
    · intro y0 y1 y2
      unfold laws_FnDebianParts.j1
      repeat' first
      | (with_reducible exact ih0 _ _ _)
      | (with_reducible exact ih1 _ _ _)
      | (with_reducible exact laws_short.mono _ _)
      | (with_reducible exact spec_DebianKnown.mono _ _)
      | (with_reducible exact spec_DebianParts.mono _ _ _)
      | (with_reducible exact LeO.refl _)
      | (with_reducible exact LeO.none _)
      | (with_reducible refine LeO.ite ?_ ?_)
      | (with_reducible refine LeO.bind ?_ (fun _ => ?_))
      | exact ih0 _ _ _
      | exact ih1 _ _ _
      | exact laws_short.mono _ _
      | exact spec_DebianKnown.mono _ _
      | exact spec_DebianParts.mono _ _ _
      | exact LeO.none _
      | refine LeO.ite ?_ ?_
      | refine LeO.bind ?_ (fun _ => ?_)
theorem laws_FnDebianParts.mono : ∀ a0 a1 k, LeO (laws_FnDebianParts.f k a0 a1) (laws_FnDebianParts.f (k + 1) a0 a1) := by
  intro a0 a1 k
  obtain ⟨ih0, ih1⟩ := laws_FnDebianParts.mono_l k
  unfold laws_FnDebianParts.f
  repeat' first
      | (with_reducible exact ih0 _ _ _)
      | (with_reducible exact ih1 _ _ _)
      | (with_reducible exact laws_short.mono _ _)
      | (with_reducible exact spec_DebianKnown.mono _ _)
      | (with_reducible exact spec_DebianParts.mono _ _ _)
      | (with_reducible exact LeO.refl _)
      | (with_reducible exact LeO.none _)
      | (with_reducible refine LeO.ite ?_ ?_)
      | (with_reducible refine LeO.bind ?_ (fun _ => ?_))
      | exact ih0 _ _ _
      | exact ih1 _ _ _
      | exact laws_short.mono _ _
      | exact spec_DebianKnown.mono _ _
      | exact spec_DebianParts.mono _ _ _
      | exact LeO.none _
      | refine LeO.ite ?_ ?_
      | refine LeO.bind ?_ (fun _ => ?_)
set_option maxHeartbeats 8000000 in
set_option maxRecDepth 100000 in
theorem laws_FnDebianParts.calls (k : Nat) (a0 : ByteArray) (a1 : ByteArray) (r : Bool) (w : World) (h : laws_FnDebianParts.f k a0 a1 = some r) (hL : Giv.Laid w) :
    Calls Tryd.prog 3 #[.string a0, .string a1] w fun e w' => e = .returned (.bool r) ∧ Below w.heap.size w w' := by
  have HLd := Aside0.mk hL
  clear hL
  have HB := Aside0.mk (Below.refl w.heap.size w)
  have H : (if (a0.size : Int) > 2147483647 then (laws_FnDebianParts.j0 k a0 a1 true) else (laws_FnDebianParts.j0 k a0 a1 (decide ((a1.size : Int) > 2147483647)))) = some r := h
  clear h
  have HC3 := Aside0.mk H
  clear H
  go_enter Tryd.func3, Tryd.ntmps3
  go_upto_region 1 with (fail)
  go_cut [18] (fun v18 wc => ∃ (kq : Nat) (x18_2 : Bool), v18 = .bool x18_2 ∧ Aside0 (laws_FnDebianParts.j0 kq a0 a1 x18_2 = some r) ∧ Aside0 (kq ≤ k) ∧ Aside0 (Below w.heap.size w wc))
  case first =>
    have H := HC3.out
    clear HC3
    by_cases c4 : (a0.size : Int) > 2147483647
    · rw [if_pos c4] at H
      have c4b0 : decide (2147483647 < (a0.size : Int)) = true := decide_eq_true c4
      have c4b1 : decide (2147483647 < a0.size) = true := decide_eq_true (by omega)
      clear c4
      (first | rw [c4b0] | (simp only [i64_w, i32_w]; rw [c4b0]) | skip)
      have H' := Aside0.mk H
      clear H
      go_wp2
      go_meet
      case rel => exact ⟨_, (true), (by first | rfl | (simp; done) | (simp [*]; done) | (simp [bne_nil_]; done)), H', ⟨by first | omega | exact Nat.le_refl _⟩, ⟨by repeat (first | (with_reducible first | exact HB.out | apply below_alloc | apply pw_below_drewN | apply below_drew1) | exact HB.out)⟩⟩
    · rw [if_neg c4] at H
      have c4b0 : decide (2147483647 < (a0.size : Int)) = false := decide_eq_false c4
      have c4b1 : decide (2147483647 < a0.size) = false := decide_eq_false (by omega)
      clear c4
      (first | rw [c4b0] | (simp only [i64_w, i32_w]; rw [c4b0]) | skip)
      have H' := Aside0.mk H
      clear H
      go_wp2
      go_meet
      case rel => exact ⟨_, (decide ((a1.size : Int) > 2147483647)), (by first | rfl | (simp; done) | (simp [*]; done) | (simp [bne_nil_]; done)), H', ⟨by first | omega | exact Nat.le_refl _⟩, ⟨by repeat (first | (with_reducible first | exact HB.out | apply below_alloc | apply pw_below_drewN | apply below_drew1) | exact HB.out)⟩⟩
  case rest =>
    clear HC3
    try clear p2
    try clear c3
    try clear c4
    try clear c4b0
    try clear c4b1
    obtain ⟨kq, x18_2, rfl, HA, HJ2, HB⟩ := hcut
    cases kq with
    | zero => exact absurd HA.out (by simp [laws_FnDebianParts.j0])
    | succ kj2 =>
      have H := HA.out
      clear HA
      simp only [laws_FnDebianParts.j0] at H
      by_cases c5 : x18_2 = true
      · subst c5
        have H1 : (some true) = some r := by rw [if_pos rfl] at H; exact H
        clear H
        have H := H1
        clear H1
        obtain rfl := Option.some.inj H
        go_wp2
        go_ret
        exact ⟨by first | rfl | (simp [errW_none, errW_some] <;> rfl) | (simp [*, errW_none, errW_some] <;> rfl) | (simp [bne_nil_]; done), by repeat (first | (with_reducible first | exact HB.out | apply below_alloc | apply pw_below_drewN | apply below_drew1) | exact HB.out)⟩
      · replace c5 := Bool.eq_false_iff.mpr c5
        subst c5
        have H1 : ((laws_short.f kj2 (([a0, a1] : List ByteArray))).bind fun t133 => (if t133 = true then ((spec_DebianKnown.f kj2 a0).bind fun t134 => (if t134 = true then ((spec_DebianKnown.f kj2 a1).bind fun t135 => (laws_FnDebianParts.j1 kj2 a0 a1 (!t135))) else (laws_FnDebianParts.j1 kj2 a0 a1 true))) else (laws_FnDebianParts.j1 kj2 a0 a1 true))) = some r := by rw [if_neg (show ¬ (false = true) by decide)] at H; exact H
        clear H
        have H := H1
        clear H1
        have HC6 := Aside0.mk H
        clear H
        go_upto_region 3 with (fail)
        go_cut [33] (fun v33 wc => ∃ (kq : Nat) (x33_5 : Bool), v33 = .bool x33_5 ∧ Aside0 (laws_FnDebianParts.j1 kq a0 a1 x33_5 = some r) ∧ Aside0 (kq ≤ kj2) ∧ Aside0 (Below w.heap.size w wc))
        case first =>
          have H := HC6.out
          clear HC6
          obtain ⟨y130, hy130⟩ : ∃ y_ : List ByteArray, y_ = (([a0, a1] : List ByteArray)) := ⟨_, rfl⟩
          replace H : ((laws_short.f kj2 y130).bind fun t133 => (if t133 = true then ((spec_DebianKnown.f kj2 a0).bind fun t134 => (if t134 = true then ((spec_DebianKnown.f kj2 a1).bind fun t135 => (laws_FnDebianParts.j1 kj2 a0 a1 (!t135))) else (laws_FnDebianParts.j1 kj2 a0 a1 true))) else (laws_FnDebianParts.j1 kj2 a0 a1 true))) = some r := by first | (rw [hy130]; with_reducible exact H) | (have H2_ := (Option.bind_some _ _).symm.trans H; rw [hy130]; with_reducible exact H2_) | (have H2_ := (Option.bind_some _ _).symm.trans H; with_reducible exact H2_) | with_reducible exact H | (rw [hy130]; exact H) | exact H
          have Ny130 := Aside0.mk hy130
          clear hy130
          replace H := Option.bind_eq_some_iff.mp H
          obtain ⟨t133, A70, H⟩ := H
          replace H : (if t133 = true then ((spec_DebianKnown.f kj2 a0).bind fun t134 => (if t134 = true then ((spec_DebianKnown.f kj2 a1).bind fun t135 => (laws_FnDebianParts.j1 kj2 a0 a1 (!t135))) else (laws_FnDebianParts.j1 kj2 a0 a1 true))) else (laws_FnDebianParts.j1 kj2 a0 a1 true)) = some r := H
          have A7 := Aside0.mk A70
          clear A70
          by_cases c8 : t133 = true
          · subst c8
            have H1 : ((spec_DebianKnown.f kj2 a0).bind fun t134 => (if t134 = true then ((spec_DebianKnown.f kj2 a1).bind fun t135 => (laws_FnDebianParts.j1 kj2 a0 a1 (!t135))) else (laws_FnDebianParts.j1 kj2 a0 a1 true))) = some r := by rw [if_pos rfl] at H; exact H
            clear H
            have H := H1
            clear H1
            replace H := Option.bind_eq_some_iff.mp H
            obtain ⟨t134, A90, H⟩ := H
            replace H : (if t134 = true then ((spec_DebianKnown.f kj2 a1).bind fun t135 => (laws_FnDebianParts.j1 kj2 a0 a1 (!t135))) else (laws_FnDebianParts.j1 kj2 a0 a1 true)) = some r := H
            have A9 := Aside0.mk A90
            clear A90
            by_cases c10 : t134 = true
            · subst c10
              have H1 : ((spec_DebianKnown.f kj2 a1).bind fun t135 => (laws_FnDebianParts.j1 kj2 a0 a1 (!t135))) = some r := by rw [if_pos rfl] at H; exact H
              clear H
              have H := H1
              clear H1
              replace H := Option.bind_eq_some_iff.mp H
              obtain ⟨t135, A110, H⟩ := H
              replace H : (laws_FnDebianParts.j1 kj2 a0 a1 (!t135)) = some r := H
              have A11 := Aside0.mk A110
              clear A110
              have H' := Aside0.mk H
              clear H
              go_wp2_with (first | ((with_reducible refine gate_dst (N := 21) rfl ?_); (try (refine gate_guard (by rfl) ?_; dsimp only)); refine Kd.R_lit Kd.string _ 9 ?hg (N := 21) ?hd (xs := ([a0, a1] : List ByteArray)) (inner := [.string a0, .string a1]) (ok := fun _ => True) (okp := fun _ => True) ?hr ?hp (fun _ hk => hk) trivial (Below.refl _ _) (Nat.le_refl _) (by simp) ?_; (case hd => rfl); (case hg => rfl); (case hr => first | (go_simp; done) | (go_simp; rfl)); (case hp => exact (Reps.one (show Kd.M Kd.string _ _ _ a0 [.string a0] from rfl) (Reps.one (show Kd.M Kd.string _ _ _ a1 [.string a1] from rfl) (Reps.none _ _)))); intro v131 w12 ho13 hb hg_ hnew_; clear hg_ hnew_; (first | rw [← Ny130.out] at ho13 | (simp only [Int.reduceToNat] at ho13; rw [← Ny130.out] at ho13)); have n0_ := Aside0.mk (Kd.R_lower ho13 (below_size (by repeat (first | (with_reducible first | exact HB.out | apply below_alloc | apply pw_below_drewN | apply below_drew1) | exact HB.out)))); have n1_ := Aside0.mk (below_step (by repeat (first | (with_reducible first | exact HB.out | apply below_alloc | apply pw_below_drewN | apply below_drew1) | exact HB.out)) hb); clear HB; have HO132 := n0_; have HB := n1_; clear n0_ n1_; clear hb ho13; obtain ⟨Ao14, co14, eo14⟩ := Kd.R_slice HO132.out; subst eo14) | ((with_reducible refine gate_callee (f := 4) rfl ?_); refine goesL_ (some 22) rfl rfl Tryd.func4 (by kernel_rfl) rfl #[.slice Ao14 y130.length co14] rfl (by (try simp only [List.map_toArray, List.map_cons, List.map_nil]); first | done | rfl | (simp only [List.length_drop, List.length_take]; rfl)) ?_; (with_reducible refine (laws_short.calls kj2 _ _ y130 true _ ?side1 ?side2 A7.out).mono ?_); (case side1 => repeat (first | exact (Kd.R_reads' HO132.out).2.2 | (with_reducible refine Kd.C_alloc ?_ _) | (with_reducible refine Kd.C_drewN ?_ _) | (with_reducible refine Kd.C_drew ?_))); (case side2 => exact (Kd.R_reads' HO132.out).2.1); rintro e w' ⟨rfl, ⟨nd, rfl⟩⟩; refine ⟨_, rfl, ?_⟩) | (go_at_call 5; (with_reducible refine (spec_DebianKnown.calls kj2 a0 true _ A9.out).mono ?_); rintro e w' ⟨rfl, ⟨nd, rfl⟩⟩) | (go_at_call 5; (with_reducible refine (spec_DebianKnown.calls kj2 a1 t135 _ A11.out).mono ?_); rintro e w' ⟨rfl, ⟨nd, rfl⟩⟩))
              go_meet
              case rel => exact ⟨_, (!t135), (by first | rfl | (simp; done) | (simp [*]; done) | (simp [bne_nil_]; done)), H', ⟨by have := HJ2.out; first | omega | exact Nat.le_refl _⟩, ⟨by repeat (first | (with_reducible first | exact HB.out | apply below_alloc | apply pw_below_drewN | apply below_drew1) | exact HB.out)⟩⟩
            · replace c10 := Bool.eq_false_iff.mpr c10
              subst c10
              have H1 : (laws_FnDebianParts.j1 kj2 a0 a1 true) = some r := by rw [if_neg (show ¬ (false = true) by decide)] at H; exact H
              clear H
              have H := H1
              clear H1
              have H' := Aside0.mk H
              clear H
              go_wp2_with (first | ((with_reducible refine gate_dst (N := 21) rfl ?_); (try (refine gate_guard (by rfl) ?_; dsimp only)); refine Kd.R_lit Kd.string _ 9 ?hg (N := 21) ?hd (xs := ([a0, a1] : List ByteArray)) (inner := [.string a0, .string a1]) (ok := fun _ => True) (okp := fun _ => True) ?hr ?hp (fun _ hk => hk) trivial (Below.refl _ _) (Nat.le_refl _) (by simp) ?_; (case hd => rfl); (case hg => rfl); (case hr => first | (go_simp; done) | (go_simp; rfl)); (case hp => exact (Reps.one (show Kd.M Kd.string _ _ _ a0 [.string a0] from rfl) (Reps.one (show Kd.M Kd.string _ _ _ a1 [.string a1] from rfl) (Reps.none _ _)))); intro v131 w15 ho16 hb hg_ hnew_; clear hg_ hnew_; (first | rw [← Ny130.out] at ho16 | (simp only [Int.reduceToNat] at ho16; rw [← Ny130.out] at ho16)); have n0_ := Aside0.mk (Kd.R_lower ho16 (below_size (by repeat (first | (with_reducible first | exact HB.out | apply below_alloc | apply pw_below_drewN | apply below_drew1) | exact HB.out)))); have n1_ := Aside0.mk (below_step (by repeat (first | (with_reducible first | exact HB.out | apply below_alloc | apply pw_below_drewN | apply below_drew1) | exact HB.out)) hb); clear HB; have HO132 := n0_; have HB := n1_; clear n0_ n1_; clear hb ho16; obtain ⟨Ao17, co17, eo17⟩ := Kd.R_slice HO132.out; subst eo17) | ((with_reducible refine gate_callee (f := 4) rfl ?_); refine goesL_ (some 22) rfl rfl Tryd.func4 (by kernel_rfl) rfl #[.slice Ao17 y130.length co17] rfl (by (try simp only [List.map_toArray, List.map_cons, List.map_nil]); first | done | rfl | (simp only [List.length_drop, List.length_take]; rfl)) ?_; (with_reducible refine (laws_short.calls kj2 _ _ y130 true _ ?side1 ?side2 A7.out).mono ?_); (case side1 => repeat (first | exact (Kd.R_reads' HO132.out).2.2 | (with_reducible refine Kd.C_alloc ?_ _) | (with_reducible refine Kd.C_drewN ?_ _) | (with_reducible refine Kd.C_drew ?_))); (case side2 => exact (Kd.R_reads' HO132.out).2.1); rintro e w' ⟨rfl, ⟨nd, rfl⟩⟩; refine ⟨_, rfl, ?_⟩) | (go_at_call 5; (with_reducible refine (spec_DebianKnown.calls kj2 a0 false _ A9.out).mono ?_); rintro e w' ⟨rfl, ⟨nd, rfl⟩⟩))
              go_meet
              case rel => exact ⟨_, (true), (by first | rfl | (simp; done) | (simp [*]; done) | (simp [bne_nil_]; done)), H', ⟨by have := HJ2.out; first | omega | exact Nat.le_refl _⟩, ⟨by repeat (first | (with_reducible first | exact HB.out | apply below_alloc | apply pw_below_drewN | apply below_drew1) | exact HB.out)⟩⟩
          · replace c8 := Bool.eq_false_iff.mpr c8
            subst c8
            have H1 : (laws_FnDebianParts.j1 kj2 a0 a1 true) = some r := by rw [if_neg (show ¬ (false = true) by decide)] at H; exact H
            clear H
            have H := H1
            clear H1
            have H' := Aside0.mk H
            clear H
            go_wp2_with (first | ((with_reducible refine gate_dst (N := 21) rfl ?_); (try (refine gate_guard (by rfl) ?_; dsimp only)); refine Kd.R_lit Kd.string _ 9 ?hg (N := 21) ?hd (xs := ([a0, a1] : List ByteArray)) (inner := [.string a0, .string a1]) (ok := fun _ => True) (okp := fun _ => True) ?hr ?hp (fun _ hk => hk) trivial (Below.refl _ _) (Nat.le_refl _) (by simp) ?_; (case hd => rfl); (case hg => rfl); (case hr => first | (go_simp; done) | (go_simp; rfl)); (case hp => exact (Reps.one (show Kd.M Kd.string _ _ _ a0 [.string a0] from rfl) (Reps.one (show Kd.M Kd.string _ _ _ a1 [.string a1] from rfl) (Reps.none _ _)))); intro v131 w18 ho19 hb hg_ hnew_; clear hg_ hnew_; (first | rw [← Ny130.out] at ho19 | (simp only [Int.reduceToNat] at ho19; rw [← Ny130.out] at ho19)); have n0_ := Aside0.mk (Kd.R_lower ho19 (below_size (by repeat (first | (with_reducible first | exact HB.out | apply below_alloc | apply pw_below_drewN | apply below_drew1) | exact HB.out)))); have n1_ := Aside0.mk (below_step (by repeat (first | (with_reducible first | exact HB.out | apply below_alloc | apply pw_below_drewN | apply below_drew1) | exact HB.out)) hb); clear HB; have HO132 := n0_; have HB := n1_; clear n0_ n1_; clear hb ho19; obtain ⟨Ao20, co20, eo20⟩ := Kd.R_slice HO132.out; subst eo20) | ((with_reducible refine gate_callee (f := 4) rfl ?_); refine goesL_ (some 22) rfl rfl Tryd.func4 (by kernel_rfl) rfl #[.slice Ao20 y130.length co20] rfl (by (try simp only [List.map_toArray, List.map_cons, List.map_nil]); first | done | rfl | (simp only [List.length_drop, List.length_take]; rfl)) ?_; (with_reducible refine (laws_short.calls kj2 _ _ y130 false _ ?side1 ?side2 A7.out).mono ?_); (case side1 => repeat (first | exact (Kd.R_reads' HO132.out).2.2 | (with_reducible refine Kd.C_alloc ?_ _) | (with_reducible refine Kd.C_drewN ?_ _) | (with_reducible refine Kd.C_drew ?_))); (case side2 => exact (Kd.R_reads' HO132.out).2.1); rintro e w' ⟨rfl, ⟨nd, rfl⟩⟩; refine ⟨_, rfl, ?_⟩))
            go_meet
            case rel => exact ⟨_, (true), (by first | rfl | (simp; done) | (simp [*]; done) | (simp [bne_nil_]; done)), H', ⟨by have := HJ2.out; first | omega | exact Nat.le_refl _⟩, ⟨by repeat (first | (with_reducible first | exact HB.out | apply below_alloc | apply pw_below_drewN | apply below_drew1) | exact HB.out)⟩⟩
        case rest =>
          clear HC6
          try clear c1
          try clear p2
          try clear c3
          try clear c4
          try clear c4b0
          try clear c4b1
          try clear c5
          try clear c8
          try clear c10
          try clear p2
          obtain ⟨kq, x33_5, rfl, HA, HJ5, HB⟩ := hcut
          cases kq with
          | zero => exact absurd HA.out (by simp [laws_FnDebianParts.j1])
          | succ kj5 =>
            have H := HA.out
            clear HA
            simp only [laws_FnDebianParts.j1] at H
            by_cases c21 : x33_5 = true
            · subst c21
              have H1 : (some true) = some r := by rw [if_pos rfl] at H; exact H
              clear H
              have H := H1
              clear H1
              obtain rfl := Option.some.inj H
              go_wp2
              go_ret
              exact ⟨by first | rfl | (simp [errW_none, errW_some] <;> rfl) | (simp [*, errW_none, errW_some] <;> rfl) | (simp [bne_nil_]; done), by repeat (first | (with_reducible first | exact HB.out | apply below_alloc | apply pw_below_drewN | apply below_drew1) | exact HB.out)⟩
            · replace c21 := Bool.eq_false_iff.mpr c21
              subst c21
              have H1 : ((spec_DebianParts.f kj5 a0 a1).bind fun bt136 => ((Giv.impl_DebianParts.f a0 a1).bind fun bt138 => ((Giv.impl_DebianParts.f a1 a0).bind fun bt140 => (if bt138.1 = bt136.1 then (if (bt138.2 == bt136.2) = true then (if (bt140.2 == bt136.2) = true then ((laws_turned.f bt138.1 bt140.1).bind fun t142 => (some t142)) else (some false)) else (some false)) else (some false))))) = some r := by rw [if_neg (show ¬ (false = true) by decide)] at H; exact H
              clear H
              have H := H1
              clear H1
              replace H := Option.bind_eq_some_iff.mp H
              obtain ⟨⟨t136, t137⟩, A220, H⟩ := H
              replace H : ((Giv.impl_DebianParts.f a0 a1).bind fun bt138 => ((Giv.impl_DebianParts.f a1 a0).bind fun bt140 => (if bt138.1 = t136 then (if (bt138.2 == t137) = true then (if (bt140.2 == t137) = true then ((laws_turned.f bt138.1 bt140.1).bind fun t142 => (some t142)) else (some false)) else (some false)) else (some false)))) = some r := H
              have A22 := Aside0.mk A220
              clear A220
              replace H := Option.bind_eq_some_iff.mp H
              obtain ⟨⟨t138, t139⟩, A230, H⟩ := H
              replace H : ((Giv.impl_DebianParts.f a1 a0).bind fun bt140 => (if t138 = t136 then (if (t139 == t137) = true then (if (bt140.2 == t137) = true then ((laws_turned.f t138 bt140.1).bind fun t142 => (some t142)) else (some false)) else (some false)) else (some false))) = some r := H
              have A23 := Aside0.mk A230
              clear A230
              replace H := Option.bind_eq_some_iff.mp H
              obtain ⟨⟨t140, t141⟩, A240, H⟩ := H
              replace H : (if t138 = t136 then (if (t139 == t137) = true then (if (t141 == t137) = true then ((laws_turned.f t138 t140).bind fun t142 => (some t142)) else (some false)) else (some false)) else (some false)) = some r := H
              have A24 := Aside0.mk A240
              clear A240
              by_cases c25 : t138 = t136
              · rw [if_pos c25] at H
                have c25b0 : (t138 == t136) = true := beq_iff_eq.mpr c25
                have c25b1 : (t138 != t136) = false := bne_eq_false_iff_eq.mpr c25
                clear c25
                by_cases c26 : (t139 == t137) = true
                · rw [if_pos c26] at H
                  have c26b0 : (t139 == t137) = true := c26
                  (try (have c26b1 : decide (t139 = t137) = true := by simpa using c26))
                  (try (have c26b2 : (t139 == t137) = true := by simpa using c26))
                  clear c26
                  by_cases c27 : (t141 == t137) = true
                  · rw [if_pos c27] at H
                    have c27b0 : (t141 == t137) = true := c27
                    (try (have c27b1 : decide (t141 = t137) = true := by simpa using c27))
                    (try (have c27b2 : (t141 == t137) = true := by simpa using c27))
                    clear c27
                    replace H := Option.bind_eq_some_iff.mp H
                    obtain ⟨t142, A280, H⟩ := H
                    replace H : (some t142) = some r := H
                    have A28 := Aside0.mk A280
                    clear A280
                    obtain rfl := Option.some.inj H
                    go_wp2_with (first | ((with_reducible refine gate_callee (f := 6) rfl ?_); refine goesL_ (some 37) rfl rfl Tryd.func6 (by kernel_rfl) rfl #[.string a0, .string a1] rfl (by (try simp only [List.map_toArray, List.map_cons, List.map_nil]); first | done | rfl | (simp only [List.length_drop, List.length_take]; rfl)) ?_; (with_reducible refine (spec_DebianParts.calls kj5 a0 a1 t136 t137 _ A22.out).mono ?_); rintro e w' ⟨rfl, ⟨nd, rfl⟩⟩; refine ⟨_, rfl, ?_⟩) | ((with_reducible refine gate_callee (f := 7) rfl ?_); refine goesL_ (some 43) rfl rfl Tryd.func7 (by kernel_rfl) rfl #[.string a0, .string a1] rfl (by (try simp only [List.map_toArray, List.map_cons, List.map_nil]); first | done | rfl | (simp only [List.length_drop, List.length_take]; rfl)) ?_; (with_reducible refine (Giv.impl_DebianParts.calls a0 a1 t138 t139 _ A23.out (HLd.out.below (by repeat (first | (with_reducible first | exact HB.out | apply below_alloc | apply pw_below_drewN | apply below_drew1) | exact HB.out)))).mono ?_); rintro e w29 ⟨rfl, hb⟩; refine ⟨_, rfl, ?_⟩; have n0_ := Aside0.mk (below_step (by repeat (first | (with_reducible first | exact HB.out | apply below_alloc | apply pw_below_drewN | apply below_drew1) | exact HB.out)) hb); clear HB; have HB := n0_; clear n0_; (try clear hb); (try clear hb2); (try clear hk); (try clear hi)) | ((with_reducible refine gate_callee (f := 7) rfl ?_); refine goesL_ (some 49) rfl rfl Tryd.func7 (by kernel_rfl) rfl #[.string a1, .string a0] rfl (by (try simp only [List.map_toArray, List.map_cons, List.map_nil]); first | done | rfl | (simp only [List.length_drop, List.length_take]; rfl)) ?_; (with_reducible refine (Giv.impl_DebianParts.calls a1 a0 t140 t141 _ A24.out (HLd.out.below (by repeat (first | (with_reducible first | exact HB.out | apply below_alloc | apply pw_below_drewN | apply below_drew1) | exact HB.out)))).mono ?_); rintro e w30 ⟨rfl, hb⟩; refine ⟨_, rfl, ?_⟩; have n0_ := Aside0.mk (below_step (by repeat (first | (with_reducible first | exact HB.out | apply below_alloc | apply pw_below_drewN | apply below_drew1) | exact HB.out)) hb); clear HB; have HB := n0_; clear n0_; (try clear hb); (try clear hb2); (try clear hk); (try clear hi)) | (go_at_call 8; (with_reducible refine (laws_turned.calls t138 t140 t142 _ A28.out).mono ?_); rintro e w' ⟨rfl, ⟨nd, rfl⟩⟩))
                    go_ret
                    exact ⟨by first | rfl | (simp [errW_none, errW_some] <;> rfl) | (simp [*, errW_none, errW_some] <;> rfl) | (simp [bne_nil_]; done), by repeat (first | (with_reducible first | exact HB.out | apply below_alloc | apply pw_below_drewN | apply below_drew1) | exact HB.out)⟩
                  · rw [if_neg c27] at H
                    have c27b0 : (t141 == t137) = false := by simpa using c27
                    (try (have c27b1 : decide (t141 = t137) = false := by simpa using c27))
                    (try (have c27b2 : (t141 == t137) = false := by simpa using c27))
                    (try (have c27b3 : ¬ (t141 = t137) := by simpa using c27))
                    clear c27
                    obtain rfl := Option.some.inj H
                    go_wp2_with (first | ((with_reducible refine gate_callee (f := 6) rfl ?_); refine goesL_ (some 37) rfl rfl Tryd.func6 (by kernel_rfl) rfl #[.string a0, .string a1] rfl (by (try simp only [List.map_toArray, List.map_cons, List.map_nil]); first | done | rfl | (simp only [List.length_drop, List.length_take]; rfl)) ?_; (with_reducible refine (spec_DebianParts.calls kj5 a0 a1 t136 t137 _ A22.out).mono ?_); rintro e w' ⟨rfl, ⟨nd, rfl⟩⟩; refine ⟨_, rfl, ?_⟩) | ((with_reducible refine gate_callee (f := 7) rfl ?_); refine goesL_ (some 43) rfl rfl Tryd.func7 (by kernel_rfl) rfl #[.string a0, .string a1] rfl (by (try simp only [List.map_toArray, List.map_cons, List.map_nil]); first | done | rfl | (simp only [List.length_drop, List.length_take]; rfl)) ?_; (with_reducible refine (Giv.impl_DebianParts.calls a0 a1 t138 t139 _ A23.out (HLd.out.below (by repeat (first | (with_reducible first | exact HB.out | apply below_alloc | apply pw_below_drewN | apply below_drew1) | exact HB.out)))).mono ?_); rintro e w31 ⟨rfl, hb⟩; refine ⟨_, rfl, ?_⟩; have n0_ := Aside0.mk (below_step (by repeat (first | (with_reducible first | exact HB.out | apply below_alloc | apply pw_below_drewN | apply below_drew1) | exact HB.out)) hb); clear HB; have HB := n0_; clear n0_; (try clear hb); (try clear hb2); (try clear hk); (try clear hi)) | ((with_reducible refine gate_callee (f := 7) rfl ?_); refine goesL_ (some 49) rfl rfl Tryd.func7 (by kernel_rfl) rfl #[.string a1, .string a0] rfl (by (try simp only [List.map_toArray, List.map_cons, List.map_nil]); first | done | rfl | (simp only [List.length_drop, List.length_take]; rfl)) ?_; (with_reducible refine (Giv.impl_DebianParts.calls a1 a0 t140 t141 _ A24.out (HLd.out.below (by repeat (first | (with_reducible first | exact HB.out | apply below_alloc | apply pw_below_drewN | apply below_drew1) | exact HB.out)))).mono ?_); rintro e w32 ⟨rfl, hb⟩; refine ⟨_, rfl, ?_⟩; have n0_ := Aside0.mk (below_step (by repeat (first | (with_reducible first | exact HB.out | apply below_alloc | apply pw_below_drewN | apply below_drew1) | exact HB.out)) hb); clear HB; have HB := n0_; clear n0_; (try clear hb); (try clear hb2); (try clear hk); (try clear hi)))
                    go_ret
                    exact ⟨by first | rfl | (simp [errW_none, errW_some] <;> rfl) | (simp [*, errW_none, errW_some] <;> rfl) | (simp [bne_nil_]; done), by repeat (first | (with_reducible first | exact HB.out | apply below_alloc | apply pw_below_drewN | apply below_drew1) | exact HB.out)⟩
                · rw [if_neg c26] at H
                  have c26b0 : (t139 == t137) = false := by simpa using c26
                  (try (have c26b1 : decide (t139 = t137) = false := by simpa using c26))
                  (try (have c26b2 : (t139 == t137) = false := by simpa using c26))
                  (try (have c26b3 : ¬ (t139 = t137) := by simpa using c26))
                  clear c26
                  obtain rfl := Option.some.inj H
                  go_wp2_with (first | ((with_reducible refine gate_callee (f := 6) rfl ?_); refine goesL_ (some 37) rfl rfl Tryd.func6 (by kernel_rfl) rfl #[.string a0, .string a1] rfl (by (try simp only [List.map_toArray, List.map_cons, List.map_nil]); first | done | rfl | (simp only [List.length_drop, List.length_take]; rfl)) ?_; (with_reducible refine (spec_DebianParts.calls kj5 a0 a1 t136 t137 _ A22.out).mono ?_); rintro e w' ⟨rfl, ⟨nd, rfl⟩⟩; refine ⟨_, rfl, ?_⟩) | ((with_reducible refine gate_callee (f := 7) rfl ?_); refine goesL_ (some 43) rfl rfl Tryd.func7 (by kernel_rfl) rfl #[.string a0, .string a1] rfl (by (try simp only [List.map_toArray, List.map_cons, List.map_nil]); first | done | rfl | (simp only [List.length_drop, List.length_take]; rfl)) ?_; (with_reducible refine (Giv.impl_DebianParts.calls a0 a1 t138 t139 _ A23.out (HLd.out.below (by repeat (first | (with_reducible first | exact HB.out | apply below_alloc | apply pw_below_drewN | apply below_drew1) | exact HB.out)))).mono ?_); rintro e w33 ⟨rfl, hb⟩; refine ⟨_, rfl, ?_⟩; have n0_ := Aside0.mk (below_step (by repeat (first | (with_reducible first | exact HB.out | apply below_alloc | apply pw_below_drewN | apply below_drew1) | exact HB.out)) hb); clear HB; have HB := n0_; clear n0_; (try clear hb); (try clear hb2); (try clear hk); (try clear hi)) | ((with_reducible refine gate_callee (f := 7) rfl ?_); refine goesL_ (some 49) rfl rfl Tryd.func7 (by kernel_rfl) rfl #[.string a1, .string a0] rfl (by (try simp only [List.map_toArray, List.map_cons, List.map_nil]); first | done | rfl | (simp only [List.length_drop, List.length_take]; rfl)) ?_; (with_reducible refine (Giv.impl_DebianParts.calls a1 a0 t140 t141 _ A24.out (HLd.out.below (by repeat (first | (with_reducible first | exact HB.out | apply below_alloc | apply pw_below_drewN | apply below_drew1) | exact HB.out)))).mono ?_); rintro e w34 ⟨rfl, hb⟩; refine ⟨_, rfl, ?_⟩; have n0_ := Aside0.mk (below_step (by repeat (first | (with_reducible first | exact HB.out | apply below_alloc | apply pw_below_drewN | apply below_drew1) | exact HB.out)) hb); clear HB; have HB := n0_; clear n0_; (try clear hb); (try clear hb2); (try clear hk); (try clear hi)))
                  go_ret
                  exact ⟨by first | rfl | (simp [errW_none, errW_some] <;> rfl) | (simp [*, errW_none, errW_some] <;> rfl) | (simp [bne_nil_]; done), by repeat (first | (with_reducible first | exact HB.out | apply below_alloc | apply pw_below_drewN | apply below_drew1) | exact HB.out)⟩
              · rw [if_neg c25] at H
                have c25b0 : (t138 == t136) = false := beq_eq_false_iff_ne.mpr c25
                have c25b1 : (t138 != t136) = true := bne_iff_ne.mpr c25
                obtain rfl := Option.some.inj H
                go_wp2_with (first | ((with_reducible refine gate_callee (f := 6) rfl ?_); refine goesL_ (some 37) rfl rfl Tryd.func6 (by kernel_rfl) rfl #[.string a0, .string a1] rfl (by (try simp only [List.map_toArray, List.map_cons, List.map_nil]); first | done | rfl | (simp only [List.length_drop, List.length_take]; rfl)) ?_; (with_reducible refine (spec_DebianParts.calls kj5 a0 a1 t136 t137 _ A22.out).mono ?_); rintro e w' ⟨rfl, ⟨nd, rfl⟩⟩; refine ⟨_, rfl, ?_⟩) | ((with_reducible refine gate_callee (f := 7) rfl ?_); refine goesL_ (some 43) rfl rfl Tryd.func7 (by kernel_rfl) rfl #[.string a0, .string a1] rfl (by (try simp only [List.map_toArray, List.map_cons, List.map_nil]); first | done | rfl | (simp only [List.length_drop, List.length_take]; rfl)) ?_; (with_reducible refine (Giv.impl_DebianParts.calls a0 a1 t138 t139 _ A23.out (HLd.out.below (by repeat (first | (with_reducible first | exact HB.out | apply below_alloc | apply pw_below_drewN | apply below_drew1) | exact HB.out)))).mono ?_); rintro e w35 ⟨rfl, hb⟩; refine ⟨_, rfl, ?_⟩; have n0_ := Aside0.mk (below_step (by repeat (first | (with_reducible first | exact HB.out | apply below_alloc | apply pw_below_drewN | apply below_drew1) | exact HB.out)) hb); clear HB; have HB := n0_; clear n0_; (try clear hb); (try clear hb2); (try clear hk); (try clear hi)) | ((with_reducible refine gate_callee (f := 7) rfl ?_); refine goesL_ (some 49) rfl rfl Tryd.func7 (by kernel_rfl) rfl #[.string a1, .string a0] rfl (by (try simp only [List.map_toArray, List.map_cons, List.map_nil]); first | done | rfl | (simp only [List.length_drop, List.length_take]; rfl)) ?_; (with_reducible refine (Giv.impl_DebianParts.calls a1 a0 t140 t141 _ A24.out (HLd.out.below (by repeat (first | (with_reducible first | exact HB.out | apply below_alloc | apply pw_below_drewN | apply below_drew1) | exact HB.out)))).mono ?_); rintro e w36 ⟨rfl, hb⟩; refine ⟨_, rfl, ?_⟩; have n0_ := Aside0.mk (below_step (by repeat (first | (with_reducible first | exact HB.out | apply below_alloc | apply pw_below_drewN | apply below_drew1) | exact HB.out)) hb); clear HB; have HB := n0_; clear n0_; (try clear hb); (try clear hb2); (try clear hk); (try clear hi)))
                go_ret
                exact ⟨by first | rfl | (simp [errW_none, errW_some] <;> rfl) | (simp [*, errW_none, errW_some] <;> rfl) | (simp [bne_nil_]; done), by repeat (first | (with_reducible first | exact HB.out | apply below_alloc | apply pw_below_drewN | apply below_drew1) | exact HB.out)⟩

/-- THE ONE PURE STATEMENT of laws_FnDebianParts: yours. -/
def laws_FnDebianParts.Pure : Prop := ∀ (a0 : ByteArray) (a1 : ByteArray), a0.size ≤ 140737488351232 → a1.size ≤ 140737488351232 → ∃ k, laws_FnDebianParts.f k a0 a1 = some true

end Go.Proofs.YtchnlfkdgajodaaDoor.QD
