-- Written by a working copy of the kit's print program, turned at a few places by wip/tool/mkprint.py. Lean checks it.
import Derived.Test.YtfgechefinijbaaDoorQRx0
import Derived.Test.YtfgechefinijbaaDoorQRx1
import Derived.Test.YtfgechefinijbaaDoorQRx2
namespace Go.Proofs.YtfgechefinijbaaDoor.QR
open Go.RowKit Go.Proofs.YtfgechefinijbaaDoorW.PrintWords Go.Proofs.YtfgechefinijbaaDoorW.PrintLast Go.Proofs.YtfgechefinijbaaDoorW.PrintMore
attribute [local go_sem] max2_int min2_int max_two min_two max_three min_three max_four min_four   -- for this text's walks alone
set_option linter.unusedVariables false
set_option linter.unusedSimpArgs false

/-! ### laws_plain: function 34 -/
mutual
def laws_plain.l0 : Nat → ByteArray → ByteArray → Int → Option (Bool)
  | 0, _, _, _ => none
  | k + 1, x0, x1, x5 => if x5 < (x0.size : Int) then (if 0 ≤ x5 then (if (bt x0 x5) ≥ 48 then (if (bt x0 x5) ≤ 57 then (laws_plain.j1 k x0 x1 x5 (bt x0 x5) true) else (if (bt x0 x5) ≥ 97 then (if (bt x0 x5) ≤ 122 then (laws_plain.j1 k x0 x1 x5 (bt x0 x5) true) else (if (bt x0 x5) ≥ 65 then (laws_plain.j1 k x0 x1 x5 (bt x0 x5) (decide ((bt x0 x5) ≤ 90))) else (laws_plain.j1 k x0 x1 x5 (bt x0 x5) false))) else (if (bt x0 x5) ≥ 65 then (laws_plain.j1 k x0 x1 x5 (bt x0 x5) (decide ((bt x0 x5) ≤ 90))) else (laws_plain.j1 k x0 x1 x5 (bt x0 x5) false)))) else (if (bt x0 x5) ≥ 97 then (if (bt x0 x5) ≤ 122 then (laws_plain.j1 k x0 x1 x5 (bt x0 x5) true) else (if (bt x0 x5) ≥ 65 then (laws_plain.j1 k x0 x1 x5 (bt x0 x5) (decide ((bt x0 x5) ≤ 90))) else (laws_plain.j1 k x0 x1 x5 (bt x0 x5) false))) else (if (bt x0 x5) ≥ 65 then (laws_plain.j1 k x0 x1 x5 (bt x0 x5) (decide ((bt x0 x5) ≤ 90))) else (laws_plain.j1 k x0 x1 x5 (bt x0 x5) false)))) else (none)) else (some (x0.toList != ([] : List UInt8)))
def laws_plain.j1 : Nat → ByteArray → ByteArray → Int → Int → Bool → Option (Bool)
  | 0, _, _, _, _, _ => none
  | k + 1, x0, x1, x5, x6, x7 => laws_plain.l1 k x0 x1 x5 x6 x7 0
def laws_plain.l1 : Nat → ByteArray → ByteArray → Int → Int → Bool → Int → Option (Bool)
  | 0, _, _, _, _, _, _ => none
  | k + 1, x0, x1, x5, x6, x7, x8 => if x8 < (x1.size : Int) then (if x7 = true then (laws_plain.l1 k x0 x1 x5 x6 true (wrap64 (x8 + 1))) else (if 0 ≤ x8 then (laws_plain.l1 k x0 x1 x5 x6 (x6 == (bt x1 x8)) (wrap64 (x8 + 1))) else (none))) else (if x7 = true then (laws_plain.l0 k x0 x1 (wrap64 (x5 + 1))) else (some false))
end
def laws_plain.f (k : Nat) (a0 : ByteArray) (a1 : ByteArray) : Option (Bool) := laws_plain.l0 k a0 a1 0
theorem laws_plain.mono_l : ∀ k, (∀ y0 y1 y2, LeO (laws_plain.l0 k y0 y1 y2) (laws_plain.l0 (k + 1) y0 y1 y2)) ∧ (∀ y0 y1 y2 y3 y4, LeO (laws_plain.j1 k y0 y1 y2 y3 y4) (laws_plain.j1 (k + 1) y0 y1 y2 y3 y4)) ∧ (∀ y0 y1 y2 y3 y4 y5, LeO (laws_plain.l1 k y0 y1 y2 y3 y4 y5) (laws_plain.l1 (k + 1) y0 y1 y2 y3 y4 y5))
  | 0 => ⟨fun _ _ _ r h => by simp [laws_plain.l0] at h, fun _ _ _ _ _ r h => by simp [laws_plain.j1] at h, fun _ _ _ _ _ _ r h => by simp [laws_plain.l1] at h⟩
  | k + 1 => by
    obtain ⟨ih0, ih1, ih2⟩ := laws_plain.mono_l k
    refine ⟨?_, ?_, ?_⟩
    · intro y0 y1 y2
      unfold laws_plain.l0
      repeat' first
      | (with_reducible exact ih0 _ _ _)
      | (with_reducible exact ih1 _ _ _ _ _)
      | (with_reducible exact ih2 _ _ _ _ _ _)
      | (with_reducible exact LeO.refl _)
      | (with_reducible exact LeO.none _)
      | (with_reducible refine LeO.ite ?_ ?_)
      | (with_reducible refine LeO.bind ?_ (fun _ => ?_))
      | exact ih0 _ _ _
      | exact ih1 _ _ _ _ _
      | exact ih2 _ _ _ _ _ _
      | exact LeO.none _
      | refine LeO.ite ?_ ?_
      | refine LeO.bind ?_ (fun _ => ?_)
    · intro y0 y1 y2 y3 y4
      unfold laws_plain.j1
      repeat' first
      | (with_reducible exact ih0 _ _ _)
      | (with_reducible exact ih1 _ _ _ _ _)
      | (with_reducible exact ih2 _ _ _ _ _ _)
      | (with_reducible exact LeO.refl _)
      | (with_reducible exact LeO.none _)
      | (with_reducible refine LeO.ite ?_ ?_)
      | (with_reducible refine LeO.bind ?_ (fun _ => ?_))
      | exact ih0 _ _ _
      | exact ih1 _ _ _ _ _
      | exact ih2 _ _ _ _ _ _
      | exact LeO.none _
      | refine LeO.ite ?_ ?_
      | refine LeO.bind ?_ (fun _ => ?_)
    · intro y0 y1 y2 y3 y4 y5
      unfold laws_plain.l1
      repeat' first
      | (with_reducible exact ih0 _ _ _)
      | (with_reducible exact ih1 _ _ _ _ _)
      | (with_reducible exact ih2 _ _ _ _ _ _)
      | (with_reducible exact LeO.refl _)
      | (with_reducible exact LeO.none _)
      | (with_reducible refine LeO.ite ?_ ?_)
      | (with_reducible refine LeO.bind ?_ (fun _ => ?_))
      | exact ih0 _ _ _
      | exact ih1 _ _ _ _ _
      | exact ih2 _ _ _ _ _ _
      | exact LeO.none _
      | refine LeO.ite ?_ ?_
      | refine LeO.bind ?_ (fun _ => ?_)
theorem laws_plain.mono : ∀ a0 a1 k, LeO (laws_plain.f k a0 a1) (laws_plain.f (k + 1) a0 a1) := by
  intro a0 a1 k
  obtain ⟨ih0, ih1, ih2⟩ := laws_plain.mono_l k
  unfold laws_plain.f
  repeat' first
      | (with_reducible exact ih0 _ _ _)
      | (with_reducible exact ih1 _ _ _ _ _)
      | (with_reducible exact ih2 _ _ _ _ _ _)
      | (with_reducible exact LeO.refl _)
      | (with_reducible exact LeO.none _)
      | (with_reducible refine LeO.ite ?_ ?_)
      | (with_reducible refine LeO.bind ?_ (fun _ => ?_))
      | exact ih0 _ _ _
      | exact ih1 _ _ _ _ _
      | exact ih2 _ _ _ _ _ _
      | exact LeO.none _
      | refine LeO.ite ?_ ?_
      | refine LeO.bind ?_ (fun _ => ?_)
set_option maxHeartbeats 8000000 in
set_option maxRecDepth 100000 in
theorem laws_plain.calls (k : Nat) (a0 : ByteArray) (a1 : ByteArray) (r : Bool) (w : World) (h : laws_plain.f k a0 a1 = some r) :
    Calls Tryd.prog 34 #[.string a0, .string a1] w fun e w' => e = .returned (.bool r) ∧ Drawn0 w w' := by
  have H : (laws_plain.l0 k a0 a1 0) = some r := h
  clear h
  have H' := Aside0.mk H
  clear H
  go_enter Tryd.func34, Tryd.ntmps34
  go_wp2
  go_loopg [5] k (fun kq v5 w' => ∃ (x5_1 : Int), v5 = .int .i64 x5_1 ∧ Aside0 (laws_plain.l0 kq a0 a1 x5_1 = some r) ∧ Aside0 (kq ≤ k) ∧ Drawn0 w w')
  case atStart => exact ⟨(0), (by first | rfl | (simp; done) | (simp [*]; done) | (simp [bne_nil_]; done)), H', ⟨Nat.le_refl _⟩, by repeat (first | exact Drawn0.refl _ | apply Drawn0.step)⟩
  case round =>
    clear H'
    try clear p2
    obtain ⟨x5_1, rfl, HA, HK1, ⟨m1, rfl⟩⟩ := hrel
    cases gk with
    | zero => exact absurd HA.out (by simp [laws_plain.l0])
    | succ k1 =>
      have H := HA.out
      clear HA
      simp only [laws_plain.l0] at H
      by_cases c3 : x5_1 < (a0.size : Int)
      · rw [if_pos c3] at H
        have c3b0 : decide (x5_1 < (a0.size : Int)) = true := decide_eq_true c3
        clear c3
        by_cases c4 : 0 ≤ x5_1
        · rw [if_pos c4] at H
          have c4b0 : decide (0 ≤ x5_1) = true := decide_eq_true c4
          clear c4
          have HC6 := Aside0.mk H
          clear H
          have p5 : 0 ≤ (x5_1 : Int) := of_decide_eq_true (by first | (with_reducible assumption) | assumption)
          have q5 : x5_1 < (a0.size : Int) := of_decide_eq_true (by first | (with_reducible assumption) | assumption)
          have hx5 := bt_at a0 x5_1
          replace p5 := eq_true p5
          replace q5 := eq_true q5
          go_upto_region 5 with (fail)
          go_cut [7] (fun v7 wc => ∃ (kq : Nat) (x7_5 : Bool), v7 = .bool x7_5 ∧ Aside0 (laws_plain.j1 kq a0 a1 x5_1 (bt a0 x5_1) x7_5 = some r) ∧ Aside0 (kq ≤ k1) ∧ Drawn0 w wc)
          case first =>
            have H := HC6.out
            clear HC6
            by_cases c7 : (bt a0 x5_1) ≥ 48
            · rw [if_pos c7] at H
              have c7b0 : decide (48 ≤ (bt a0 x5_1)) = true := decide_eq_true c7
              clear c7
              (first | rw [c7b0] | (simp only [i64_w, i32_w]; rw [c7b0]) | skip)
              by_cases c8 : (bt a0 x5_1) ≤ 57
              · rw [if_pos c8] at H
                have c8b0 : decide ((bt a0 x5_1) ≤ 57) = true := decide_eq_true c8
                clear c8
                have H' := Aside0.mk H
                clear H
                go_wp2
                go_meet
                case rel => exact ⟨_, (true), (by first | rfl | (simp; done) | (simp [*]; done) | (simp [bne_nil_]; done)), H', ⟨by have := HK1.out; first | omega | exact Nat.le_refl _⟩, by repeat (first | exact Drawn0.refl _ | apply Drawn0.step)⟩
              · rw [if_neg c8] at H
                have c8b0 : decide ((bt a0 x5_1) ≤ 57) = false := decide_eq_false c8
                clear c8
                by_cases c9 : (bt a0 x5_1) ≥ 97
                · rw [if_pos c9] at H
                  have c9b0 : decide (97 ≤ (bt a0 x5_1)) = true := decide_eq_true c9
                  clear c9
                  by_cases c10 : (bt a0 x5_1) ≤ 122
                  · rw [if_pos c10] at H
                    have c10b0 : decide ((bt a0 x5_1) ≤ 122) = true := decide_eq_true c10
                    clear c10
                    have H' := Aside0.mk H
                    clear H
                    go_wp2
                    go_meet
                    case rel => exact ⟨_, (true), (by first | rfl | (simp; done) | (simp [*]; done) | (simp [bne_nil_]; done)), H', ⟨by have := HK1.out; first | omega | exact Nat.le_refl _⟩, by repeat (first | exact Drawn0.refl _ | apply Drawn0.step)⟩
                  · rw [if_neg c10] at H
                    have c10b0 : decide ((bt a0 x5_1) ≤ 122) = false := decide_eq_false c10
                    clear c10
                    by_cases c11 : (bt a0 x5_1) ≥ 65
                    · rw [if_pos c11] at H
                      have c11b0 : decide (65 ≤ (bt a0 x5_1)) = true := decide_eq_true c11
                      clear c11
                      have H' := Aside0.mk H
                      clear H
                      go_wp2
                      go_meet
                      case rel => exact ⟨_, (decide ((bt a0 x5_1) ≤ 90)), (by first | rfl | (simp; done) | (simp [*]; done) | (simp [bne_nil_]; done)), H', ⟨by have := HK1.out; first | omega | exact Nat.le_refl _⟩, by repeat (first | exact Drawn0.refl _ | apply Drawn0.step)⟩
                    · rw [if_neg c11] at H
                      have c11b0 : decide (65 ≤ (bt a0 x5_1)) = false := decide_eq_false c11
                      clear c11
                      have H' := Aside0.mk H
                      clear H
                      go_wp2
                      go_meet
                      case rel => exact ⟨_, (false), (by first | rfl | (simp; done) | (simp [*]; done) | (simp [bne_nil_]; done)), H', ⟨by have := HK1.out; first | omega | exact Nat.le_refl _⟩, by repeat (first | exact Drawn0.refl _ | apply Drawn0.step)⟩
                · rw [if_neg c9] at H
                  have c9b0 : decide (97 ≤ (bt a0 x5_1)) = false := decide_eq_false c9
                  clear c9
                  by_cases c12 : (bt a0 x5_1) ≥ 65
                  · rw [if_pos c12] at H
                    have c12b0 : decide (65 ≤ (bt a0 x5_1)) = true := decide_eq_true c12
                    clear c12
                    have H' := Aside0.mk H
                    clear H
                    go_wp2
                    go_meet
                    case rel => exact ⟨_, (decide ((bt a0 x5_1) ≤ 90)), (by first | rfl | (simp; done) | (simp [*]; done) | (simp [bne_nil_]; done)), H', ⟨by have := HK1.out; first | omega | exact Nat.le_refl _⟩, by repeat (first | exact Drawn0.refl _ | apply Drawn0.step)⟩
                  · rw [if_neg c12] at H
                    have c12b0 : decide (65 ≤ (bt a0 x5_1)) = false := decide_eq_false c12
                    clear c12
                    have H' := Aside0.mk H
                    clear H
                    go_wp2
                    go_meet
                    case rel => exact ⟨_, (false), (by first | rfl | (simp; done) | (simp [*]; done) | (simp [bne_nil_]; done)), H', ⟨by have := HK1.out; first | omega | exact Nat.le_refl _⟩, by repeat (first | exact Drawn0.refl _ | apply Drawn0.step)⟩
            · rw [if_neg c7] at H
              have c7b0 : decide (48 ≤ (bt a0 x5_1)) = false := decide_eq_false c7
              clear c7
              (first | rw [c7b0] | (simp only [i64_w, i32_w]; rw [c7b0]) | skip)
              by_cases c13 : (bt a0 x5_1) ≥ 97
              · rw [if_pos c13] at H
                have c13b0 : decide (97 ≤ (bt a0 x5_1)) = true := decide_eq_true c13
                clear c13
                by_cases c14 : (bt a0 x5_1) ≤ 122
                · rw [if_pos c14] at H
                  have c14b0 : decide ((bt a0 x5_1) ≤ 122) = true := decide_eq_true c14
                  clear c14
                  have H' := Aside0.mk H
                  clear H
                  go_wp2
                  go_meet
                  case rel => exact ⟨_, (true), (by first | rfl | (simp; done) | (simp [*]; done) | (simp [bne_nil_]; done)), H', ⟨by have := HK1.out; first | omega | exact Nat.le_refl _⟩, by repeat (first | exact Drawn0.refl _ | apply Drawn0.step)⟩
                · rw [if_neg c14] at H
                  have c14b0 : decide ((bt a0 x5_1) ≤ 122) = false := decide_eq_false c14
                  clear c14
                  by_cases c15 : (bt a0 x5_1) ≥ 65
                  · rw [if_pos c15] at H
                    have c15b0 : decide (65 ≤ (bt a0 x5_1)) = true := decide_eq_true c15
                    clear c15
                    have H' := Aside0.mk H
                    clear H
                    go_wp2
                    go_meet
                    case rel => exact ⟨_, (decide ((bt a0 x5_1) ≤ 90)), (by first | rfl | (simp; done) | (simp [*]; done) | (simp [bne_nil_]; done)), H', ⟨by have := HK1.out; first | omega | exact Nat.le_refl _⟩, by repeat (first | exact Drawn0.refl _ | apply Drawn0.step)⟩
                  · rw [if_neg c15] at H
                    have c15b0 : decide (65 ≤ (bt a0 x5_1)) = false := decide_eq_false c15
                    clear c15
                    have H' := Aside0.mk H
                    clear H
                    go_wp2
                    go_meet
                    case rel => exact ⟨_, (false), (by first | rfl | (simp; done) | (simp [*]; done) | (simp [bne_nil_]; done)), H', ⟨by have := HK1.out; first | omega | exact Nat.le_refl _⟩, by repeat (first | exact Drawn0.refl _ | apply Drawn0.step)⟩
              · rw [if_neg c13] at H
                have c13b0 : decide (97 ≤ (bt a0 x5_1)) = false := decide_eq_false c13
                clear c13
                by_cases c16 : (bt a0 x5_1) ≥ 65
                · rw [if_pos c16] at H
                  have c16b0 : decide (65 ≤ (bt a0 x5_1)) = true := decide_eq_true c16
                  clear c16
                  have H' := Aside0.mk H
                  clear H
                  go_wp2
                  go_meet
                  case rel => exact ⟨_, (decide ((bt a0 x5_1) ≤ 90)), (by first | rfl | (simp; done) | (simp [*]; done) | (simp [bne_nil_]; done)), H', ⟨by have := HK1.out; first | omega | exact Nat.le_refl _⟩, by repeat (first | exact Drawn0.refl _ | apply Drawn0.step)⟩
                · rw [if_neg c16] at H
                  have c16b0 : decide (65 ≤ (bt a0 x5_1)) = false := decide_eq_false c16
                  clear c16
                  have H' := Aside0.mk H
                  clear H
                  go_wp2
                  go_meet
                  case rel => exact ⟨_, (false), (by first | rfl | (simp; done) | (simp [*]; done) | (simp [bne_nil_]; done)), H', ⟨by have := HK1.out; first | omega | exact Nat.le_refl _⟩, by repeat (first | exact Drawn0.refl _ | apply Drawn0.step)⟩
          case rest =>
            clear HC6
            try clear c1
            try clear p2
            try clear c3
            try clear c3b0
            try clear c4
            try clear c4b0
            try clear p5
            try clear q5
            try clear hx5
            try clear c7
            try clear c7b0
            try clear c8
            try clear c8b0
            try clear c9
            try clear c9b0
            try clear c10
            try clear c10b0
            try clear c11
            try clear c11b0
            try clear c12
            try clear c12b0
            try clear c13
            try clear c13b0
            try clear c14
            try clear c14b0
            try clear c15
            try clear c15b0
            try clear c16
            try clear c16b0
            try clear p2
            try clear p5
            try clear q5
            obtain ⟨kq, x7_5, rfl, HA, HJ5, ⟨mc5, rfl⟩⟩ := hcut
            cases kq with
            | zero => exact absurd HA.out (by simp [laws_plain.j1])
            | succ kj5 =>
              have H := HA.out
              clear HA
              simp only [laws_plain.j1] at H
              have H' := Aside0.mk H
              clear H
              go_wp2
              go_loopg [7, 8] kj5 (fun kq v7 v8 w' => ∃ (x7_3 : Bool) (x8_3 : Int), v7 = .bool x7_3 ∧ v8 = .int .i64 x8_3 ∧ Aside0 (laws_plain.l1 kq a0 a1 x5_1 (bt a0 x5_1) x7_3 x8_3 = some r) ∧ Aside0 (kq ≤ kj5) ∧ Drawn0 w w')
              case atStart => exact ⟨(x7_5), (0), (by first | rfl | (simp; done) | (simp [*]; done) | (simp [bne_nil_]; done)), (by first | rfl | (simp; done) | (simp [*]; done) | (simp [bne_nil_]; done)), H', ⟨Nat.le_refl _⟩, by repeat (first | exact Drawn0.refl _ | apply Drawn0.step)⟩
              case round =>
                clear H'
                try clear c1
                try clear p2
                try clear c3
                try clear c3b0
                try clear c4
                try clear c4b0
                try clear c5
                try clear p5
                try clear q5
                try clear hx5
                try clear c7
                try clear c7b0
                try clear c8
                try clear c8b0
                try clear c9
                try clear c9b0
                try clear c10
                try clear c10b0
                try clear c11
                try clear c11b0
                try clear c12
                try clear c12b0
                try clear c13
                try clear c13b0
                try clear c14
                try clear c14b0
                try clear c15
                try clear c15b0
                try clear c16
                try clear c16b0
                try clear p2
                try clear p5
                try clear q5
                obtain ⟨x7_3, x8_3, rfl, rfl, HA, HK3, ⟨m3, rfl⟩⟩ := hrel
                cases gk with
                | zero => exact absurd HA.out (by simp [laws_plain.l1])
                | succ k3 =>
                  have H := HA.out
                  clear HA
                  simp only [laws_plain.l1] at H
                  by_cases c17 : x8_3 < (a1.size : Int)
                  · rw [if_pos c17] at H
                    have c17b0 : decide (x8_3 < (a1.size : Int)) = true := decide_eq_true c17
                    clear c17
                    by_cases c18 : x7_3 = true
                    · subst c18
                      have H1 : (laws_plain.l1 k3 a0 a1 x5_1 (bt a0 x5_1) true (wrap64 (x8_3 + 1))) = some r := by rw [if_pos rfl] at H; exact H
                      clear H
                      have H := H1
                      clear H1
                      have H' := Aside0.mk H
                      clear H
                      go_wp2
                      go_roundg k3
                      case measure => have := HK1.out; have := HJ5.out; have := HK3.out; omega
                      case rel => exact ⟨(true), (wrap64 (x8_3 + 1)), (by first | rfl | (simp; done) | (simp [*]; done) | (simp [bne_nil_]; done)), (by first | rfl | (simp; done) | (simp [*]; done) | (simp [bne_nil_]; done)), H', ⟨by have := HK1.out; have := HJ5.out; have := HK3.out; omega⟩, by repeat (first | exact Drawn0.refl _ | apply Drawn0.step)⟩
                    · replace c18 := Bool.eq_false_iff.mpr c18
                      subst c18
                      have H1 : (if 0 ≤ x8_3 then (laws_plain.l1 k3 a0 a1 x5_1 (bt a0 x5_1) ((bt a0 x5_1) == (bt a1 x8_3)) (wrap64 (x8_3 + 1))) else (none)) = some r := by rw [if_neg (show ¬ (false = true) by decide)] at H; exact H
                      clear H
                      have H := H1
                      clear H1
                      by_cases c19 : 0 ≤ x8_3
                      · rw [if_pos c19] at H
                        have c19b0 : decide (0 ≤ x8_3) = true := decide_eq_true c19
                        clear c19
                        have H' := Aside0.mk H
                        clear H
                        have p20 : 0 ≤ (x8_3 : Int) := of_decide_eq_true (by first | (with_reducible assumption) | assumption)
                        have q20 : x8_3 < (a1.size : Int) := of_decide_eq_true (by first | (with_reducible assumption) | assumption)
                        have hx20 := bt_at a1 x8_3
                        replace p20 := eq_true p20
                        replace q20 := eq_true q20
                        go_wp2
                        go_roundg k3
                        case measure => have := HK1.out; have := HJ5.out; have := HK3.out; omega
                        case rel => exact ⟨(((bt a0 x5_1) == (bt a1 x8_3))), (wrap64 (x8_3 + 1)), (by first | rfl | (simp; done) | (simp [*]; done) | (simp [bne_nil_]; done)), (by first | rfl | (simp; done) | (simp [*]; done) | (simp [bne_nil_]; done)), H', ⟨by have := HK1.out; have := HJ5.out; have := HK3.out; omega⟩, by repeat (first | exact Drawn0.refl _ | apply Drawn0.step)⟩
                      · rw [if_neg c19] at H
                        exact absurd H (by simp)
                  · rw [if_neg c17] at H
                    have c17b0 : decide (x8_3 < (a1.size : Int)) = false := decide_eq_false c17
                    clear c17
                    by_cases c21 : x7_3 = true
                    · subst c21
                      have H1 : (laws_plain.l0 k3 a0 a1 (wrap64 (x5_1 + 1))) = some r := by rw [if_pos rfl] at H; exact H
                      clear H
                      have H := H1
                      clear H1
                      have H' := Aside0.mk H
                      clear H
                      go_wp2
                      go_roundg k3
                      case measure => have := HK1.out; have := HJ5.out; have := HK3.out; omega
                      case rel => exact ⟨(wrap64 (x5_1 + 1)), (by first | rfl | (simp; done) | (simp [*]; done) | (simp [bne_nil_]; done)), H', ⟨by have := HK1.out; have := HJ5.out; have := HK3.out; omega⟩, by repeat (first | exact Drawn0.refl _ | apply Drawn0.step)⟩
                    · replace c21 := Bool.eq_false_iff.mpr c21
                      subst c21
                      have H1 : (some false) = some r := by rw [if_neg (show ¬ (false = true) by decide)] at H; exact H
                      clear H
                      have H := H1
                      clear H1
                      obtain rfl := Option.some.inj H
                      go_wp2
                      go_ret
                      exact ⟨by first | rfl | (simp; done) | (simp [*]; done) | (simp [bne_nil_]; done), by repeat (first | exact Drawn0.refl _ | apply Drawn0.step)⟩
        · rw [if_neg c4] at H
          exact absurd H (by simp)
      · rw [if_neg c3] at H
        have c3b0 : decide (x5_1 < (a0.size : Int)) = false := decide_eq_false c3
        clear c3
        obtain rfl := Option.some.inj H
        go_wp2
        go_ret
        exact ⟨by first | rfl | (simp; done) | (simp [*]; done) | (simp [bne_nil_]; done), by repeat (first | exact Drawn0.refl _ | apply Drawn0.step)⟩

-- GIVEN: function 75 (semantic_compareSemverBuildComponents)

/-! ### semantic_ZZIdentifiers: function 61 -/
def semantic_ZZIdentifiers.f (l0 : List ByteArray) (l1 : List ByteArray) : Option (Int) := (Giv.semantic_compareSemverBuildComponents.f l0 l1).bind fun t153 => (some t153)
set_option maxHeartbeats 8000000 in
set_option maxRecDepth 100000 in
theorem semantic_ZZIdentifiers.calls (A0 : Option Addr) (c0 : Nat) (l0 : List ByteArray) (A1 : Option Addr) (c1 : Nat) (l1 : List ByteArray) (r : Int) (w : World) (hr0 : Kd.C Kd.string w A0 l0.length l0) (hc0 : l0.length ≤ c0) (hr1 : Kd.C Kd.string w A1 l1.length l1) (hc1 : l1.length ≤ c1) (h : semantic_ZZIdentifiers.f l0 l1 = some r) (hL : Giv.Laid w) :
    Calls Tryd.prog 61 #[.slice A0 l0.length c0, .slice A1 l1.length c1] w fun e w' => e = .returned (.int .i64 r) ∧ Below w.heap.size w w' := by
  have HLd := Aside0.mk hL
  clear hL
  have HR0 := Aside0.mk hr0
  have HC0 := Aside0.mk hc0
  clear hr0 hc0
  have HR1 := Aside0.mk hr1
  have HC1 := Aside0.mk hc1
  clear hr1 hc1
  have HB := Aside0.mk (Below.refl w.heap.size w)
  have H : ((Giv.semantic_compareSemverBuildComponents.f l0 l1).bind fun t153 => (some t153)) = some r := h
  clear h
  replace H := Option.bind_eq_some_iff.mp H
  obtain ⟨t153, A30, H⟩ := H
  replace H : (some t153) = some r := H
  have A3 := Aside0.mk A30
  clear A30
  obtain rfl := Option.some.inj H
  go_enter Tryd.func61, Tryd.ntmps61
  go_wp2_with (first | ((with_reducible refine gate_callee (f := 75) rfl ?_); refine goesL_ (some 7) rfl rfl Tryd.func75 (by kernel_rfl) rfl #[.slice A0 l0.length c0, .slice A1 l1.length c1] rfl (by (try simp only [List.map_toArray, List.map_cons, List.map_nil]); first | done | rfl | (simp only [List.length_drop, List.length_take]; rfl)) ?_; (with_reducible refine (Giv.semantic_compareSemverBuildComponents.calls _ _ l0 _ _ l1 t153 _ ?side1 ?side2 ?side3 ?side4 A3.out (HLd.out.below (by repeat (first | (with_reducible first | exact HB.out | apply below_alloc | apply pw_below_drewN | apply below_drew1) | exact HB.out)))).mono ?_); (case side1 => repeat (first | exact HR0.out | (with_reducible refine Kd.C_alloc ?_ _) | (with_reducible refine Kd.C_drewN ?_ _) | (with_reducible refine Kd.C_drew ?_))); (case side2 => exact HC0.out); (case side3 => repeat (first | exact HR1.out | (with_reducible refine Kd.C_alloc ?_ _) | (with_reducible refine Kd.C_drewN ?_ _) | (with_reducible refine Kd.C_drew ?_))); (case side4 => exact HC1.out); rintro e w4 ⟨rfl, hb⟩; refine ⟨_, rfl, ?_⟩; have n0_ := Aside0.mk (below_step (by repeat (first | (with_reducible first | exact HB.out | apply below_alloc | apply pw_below_drewN | apply below_drew1) | exact HB.out)) hb); clear HB; have HB := n0_; clear n0_; (try clear hb); (try clear hb2); (try clear hk); (try clear hi)))
  go_ret
  exact ⟨by first | rfl | (simp [errW_none, errW_some] <;> rfl) | (simp [*, errW_none, errW_some] <;> rfl) | (simp [bne_nil_]; done), by repeat (first | (with_reducible first | exact HB.out | apply below_alloc | apply pw_below_drewN | apply below_drew1) | exact HB.out)⟩

/-! ### impl_Identifiers: function 36 -/
def impl_Identifiers.f (l0 : List ByteArray) (l1 : List ByteArray) : Option (Int) := (semantic_ZZIdentifiers.f l0 l1).bind fun t154 => (some t154)
set_option maxHeartbeats 8000000 in
set_option maxRecDepth 100000 in
theorem impl_Identifiers.calls (A0 : Option Addr) (c0 : Nat) (l0 : List ByteArray) (A1 : Option Addr) (c1 : Nat) (l1 : List ByteArray) (r : Int) (w : World) (hr0 : Kd.C Kd.string w A0 l0.length l0) (hc0 : l0.length ≤ c0) (hr1 : Kd.C Kd.string w A1 l1.length l1) (hc1 : l1.length ≤ c1) (h : impl_Identifiers.f l0 l1 = some r) (hL : Giv.Laid w) :
    Calls Tryd.prog 36 #[.slice A0 l0.length c0, .slice A1 l1.length c1] w fun e w' => e = .returned (.int .i64 r) ∧ Below w.heap.size w w' := by
  have HLd := Aside0.mk hL
  clear hL
  have HR0 := Aside0.mk hr0
  have HC0 := Aside0.mk hc0
  clear hr0 hc0
  have HR1 := Aside0.mk hr1
  have HC1 := Aside0.mk hc1
  clear hr1 hc1
  have HB := Aside0.mk (Below.refl w.heap.size w)
  have H : ((semantic_ZZIdentifiers.f l0 l1).bind fun t154 => (some t154)) = some r := h
  clear h
  replace H := Option.bind_eq_some_iff.mp H
  obtain ⟨t154, A30, H⟩ := H
  replace H : (some t154) = some r := H
  have A3 := Aside0.mk A30
  clear A30
  obtain rfl := Option.some.inj H
  go_enter Tryd.func36, Tryd.ntmps36
  go_wp2_with (first | ((with_reducible refine gate_callee (f := 61) rfl ?_); refine goesL_ (some 7) rfl rfl Tryd.func61 (by kernel_rfl) rfl #[.slice A0 l0.length c0, .slice A1 l1.length c1] rfl (by (try simp only [List.map_toArray, List.map_cons, List.map_nil]); first | done | rfl | (simp only [List.length_drop, List.length_take]; rfl)) ?_; (with_reducible refine (semantic_ZZIdentifiers.calls _ _ l0 _ _ l1 t154 _ ?side1 ?side2 ?side3 ?side4 A3.out (HLd.out.below (by repeat (first | (with_reducible first | exact HB.out | apply below_alloc | apply pw_below_drewN | apply below_drew1) | exact HB.out)))).mono ?_); (case side1 => repeat (first | exact HR0.out | (with_reducible refine Kd.C_alloc ?_ _) | (with_reducible refine Kd.C_drewN ?_ _) | (with_reducible refine Kd.C_drew ?_))); (case side2 => exact HC0.out); (case side3 => repeat (first | exact HR1.out | (with_reducible refine Kd.C_alloc ?_ _) | (with_reducible refine Kd.C_drewN ?_ _) | (with_reducible refine Kd.C_drew ?_))); (case side4 => exact HC1.out); rintro e w4 ⟨rfl, hb⟩; refine ⟨_, rfl, ?_⟩; have n0_ := Aside0.mk (below_step (by repeat (first | (with_reducible first | exact HB.out | apply below_alloc | apply pw_below_drewN | apply below_drew1) | exact HB.out)) hb); clear HB; have HB := n0_; clear n0_; (try clear hb); (try clear hb2); (try clear hk); (try clear hi)))
  go_ret
  exact ⟨by first | rfl | (simp [errW_none, errW_some] <;> rfl) | (simp [*, errW_none, errW_some] <;> rfl) | (simp [bne_nil_]; done), by repeat (first | (with_reducible first | exact HB.out | apply below_alloc | apply pw_below_drewN | apply below_drew1) | exact HB.out)⟩

/-! ### laws_FnIdentifiersLonger: function 10 -/
mutual
def laws_FnIdentifiersLonger.j0 : Nat → List ByteArray → ByteArray → ByteArray → ByteArray → Bool → Option (Bool)
  | 0, _, _, _, _, _ => none
  | k + 1, x0, x1, x2, x3, x29 => if x29 = true then (some true) else ((laws_short.f k x0).bind fun t156 => (if t156 = true then ((laws_short.f k (([x1, x2, x3] : List ByteArray))).bind fun t160 => (if t160 = true then ((laws_digits.f k x2).bind fun t161 => (if t161 = true then ((laws_plain.f k x3 (⟨#[]⟩ : ByteArray)).bind fun t162 => (if t162 = true then ((laws_digits.f k x3).bind fun t163 => (if t163 = true then (laws_FnIdentifiersLonger.j1 k x0 x1 x2 x3 true) else ((spec_IdentifiersKnown.f k x0).bind fun t164 => (if t164 = true then ((spec_IdentifiersKnown.f k (([x1] : List ByteArray))).bind fun t168 => (laws_FnIdentifiersLonger.j1 k x0 x1 x2 x3 (!t168))) else (laws_FnIdentifiersLonger.j1 k x0 x1 x2 x3 true))))) else (laws_FnIdentifiersLonger.j1 k x0 x1 x2 x3 true))) else (laws_FnIdentifiersLonger.j1 k x0 x1 x2 x3 true))) else (laws_FnIdentifiersLonger.j1 k x0 x1 x2 x3 true))) else (laws_FnIdentifiersLonger.j1 k x0 x1 x2 x3 true)))
def laws_FnIdentifiersLonger.j1 : Nat → List ByteArray → ByteArray → ByteArray → ByteArray → Bool → Option (Bool)
  | 0, _, _, _, _, _ => none
  | k + 1, x0, x1, x2, x3, x65 => if x65 = true then (some true) else (if ([] : List ByteArray).length + x0.length < 8796093022208 then ((some (([] : List ByteArray) ++ x0 : List ByteArray)).bind fun y169 => (if y169.length < 8796093022208 then ((some (([] : List ByteArray) ++ x0 : List ByteArray)).bind fun y175 => (if y175.length < 8796093022208 then ((some (y175 ++ [x2] : List ByteArray)).bind fun y178 => ((some (([] : List ByteArray) ++ x0 : List ByteArray)).bind fun y181 => (if y181.length < 8796093022208 then ((some (y181 ++ [x3] : List ByteArray)).bind fun y184 => ((impl_Identifiers.f x0 (y169 ++ [x1])).bind fun t187 => (if t187 = (-1) then ((impl_Identifiers.f y178 y184).bind fun t188 => (if t188 = (-1) then ((impl_Identifiers.f y184 y178).bind fun t189 => (some (t189 == 1))) else (some false))) else (some false)))) else (none)))) else (none))) else (none))) else (none))
end
def laws_FnIdentifiersLonger.f (k : Nat) (l0 : List ByteArray) (a1 : ByteArray) (a2 : ByteArray) (a3 : ByteArray) : Option (Bool) := (laws_zzFits1.f k l0).bind fun t155 => (if t155 = true then (if (a1.size : Int) > 2147483647 then (laws_FnIdentifiersLonger.j0 k l0 a1 a2 a3 true) else (if (a2.size : Int) > 2147483647 then (laws_FnIdentifiersLonger.j0 k l0 a1 a2 a3 true) else (laws_FnIdentifiersLonger.j0 k l0 a1 a2 a3 (decide ((a3.size : Int) > 2147483647))))) else (laws_FnIdentifiersLonger.j0 k l0 a1 a2 a3 true))
theorem laws_FnIdentifiersLonger.mono_l : ∀ k, (∀ y0 y1 y2 y3 y4, LeO (laws_FnIdentifiersLonger.j0 k y0 y1 y2 y3 y4) (laws_FnIdentifiersLonger.j0 (k + 1) y0 y1 y2 y3 y4)) ∧ (∀ y0 y1 y2 y3 y4, LeO (laws_FnIdentifiersLonger.j1 k y0 y1 y2 y3 y4) (laws_FnIdentifiersLonger.j1 (k + 1) y0 y1 y2 y3 y4))
  | 0 => ⟨fun _ _ _ _ _ r h => by simp [laws_FnIdentifiersLonger.j0] at h, fun _ _ _ _ _ r h => by simp [laws_FnIdentifiersLonger.j1] at h⟩
  | k + 1 => by
    obtain ⟨ih0, ih1⟩ := laws_FnIdentifiersLonger.mono_l k
    refine ⟨?_, ?_⟩
    · intro y0 y1 y2 y3 y4
      unfold laws_FnIdentifiersLonger.j0
      repeat' first
      | (with_reducible exact ih0 _ _ _ _ _)
      | (with_reducible exact ih1 _ _ _ _ _)
      | (with_reducible exact laws_digits.mono _ _)
      | (with_reducible exact laws_plain.mono _ _ _)
      | (with_reducible exact laws_short.mono _ _)
      | (with_reducible exact laws_zzFits1.mono _ _)
      | (with_reducible exact spec_IdentifiersKnown.mono _ _)
      | (with_reducible exact LeO.refl _)
      | (with_reducible exact LeO.none _)
      | (with_reducible refine LeO.ite ?_ ?_)
      | (with_reducible refine LeO.bind ?_ (fun _ => ?_))
      | exact ih0 _ _ _ _ _
      | exact ih1 _ _ _ _ _
      | exact laws_digits.mono _ _
      | exact laws_plain.mono _ _ _
      | exact laws_short.mono _ _
      | exact laws_zzFits1.mono _ _
      | exact spec_IdentifiersKnown.mono _ _
      | exact LeO.none _
      | refine LeO.ite ?_ ?_
      | refine LeO.bind ?_ (fun _ => ?_)
    · intro y0 y1 y2 y3 y4
      unfold laws_FnIdentifiersLonger.j1
      repeat' first
      | (with_reducible exact ih0 _ _ _ _ _)
      | (with_reducible exact ih1 _ _ _ _ _)
      | (with_reducible exact laws_digits.mono _ _)
      | (with_reducible exact laws_plain.mono _ _ _)
      | (with_reducible exact laws_short.mono _ _)
      | (with_reducible exact laws_zzFits1.mono _ _)
      | (with_reducible exact spec_IdentifiersKnown.mono _ _)
      | (with_reducible exact LeO.refl _)
      | (with_reducible exact LeO.none _)
      | (with_reducible refine LeO.ite ?_ ?_)
      | (with_reducible refine LeO.bind ?_ (fun _ => ?_))
      | exact ih0 _ _ _ _ _
      | exact ih1 _ _ _ _ _
      | exact laws_digits.mono _ _
      | exact laws_plain.mono _ _ _
      | exact laws_short.mono _ _
      | exact laws_zzFits1.mono _ _
      | exact spec_IdentifiersKnown.mono _ _
      | exact LeO.none _
      | refine LeO.ite ?_ ?_
      | refine LeO.bind ?_ (fun _ => ?_)
theorem laws_FnIdentifiersLonger.mono : ∀ a0 a1 a2 a3 k, LeO (laws_FnIdentifiersLonger.f k a0 a1 a2 a3) (laws_FnIdentifiersLonger.f (k + 1) a0 a1 a2 a3) := by
  intro a0 a1 a2 a3 k
  obtain ⟨ih0, ih1⟩ := laws_FnIdentifiersLonger.mono_l k
  unfold laws_FnIdentifiersLonger.f
  repeat' first
      | (with_reducible exact ih0 _ _ _ _ _)
      | (with_reducible exact ih1 _ _ _ _ _)
      | (with_reducible exact laws_digits.mono _ _)
      | (with_reducible exact laws_plain.mono _ _ _)
      | (with_reducible exact laws_short.mono _ _)
      | (with_reducible exact laws_zzFits1.mono _ _)
      | (with_reducible exact spec_IdentifiersKnown.mono _ _)
      | (with_reducible exact LeO.refl _)
      | (with_reducible exact LeO.none _)
      | (with_reducible refine LeO.ite ?_ ?_)
      | (with_reducible refine LeO.bind ?_ (fun _ => ?_))
      | exact ih0 _ _ _ _ _
      | exact ih1 _ _ _ _ _
      | exact laws_digits.mono _ _
      | exact laws_plain.mono _ _ _
      | exact laws_short.mono _ _
      | exact laws_zzFits1.mono _ _
      | exact spec_IdentifiersKnown.mono _ _
      | exact LeO.none _
      | refine LeO.ite ?_ ?_
      | refine LeO.bind ?_ (fun _ => ?_)
set_option maxHeartbeats 8000000 in
set_option maxRecDepth 100000 in
theorem laws_FnIdentifiersLonger.calls (k : Nat) (A0 : Option Addr) (c0 : Nat) (l0 : List ByteArray) (a1 : ByteArray) (a2 : ByteArray) (a3 : ByteArray) (r : Bool) (w : World) (hr0 : Kd.C Kd.string w A0 l0.length l0) (hc0 : l0.length ≤ c0) (h : laws_FnIdentifiersLonger.f k l0 a1 a2 a3 = some r) (hL : Giv.Laid w) :
    Calls Tryd.prog 10 #[.slice A0 l0.length c0, .string a1, .string a2, .string a3] w fun e w' => e = .returned (.bool r) ∧ Below w.heap.size w w' := by
  have HLd := Aside0.mk hL
  clear hL
  have HR0 := Aside0.mk hr0
  have HC0 := Aside0.mk hc0
  clear hr0 hc0
  have HB := Aside0.mk (Below.refl w.heap.size w)
  have H : ((laws_zzFits1.f k l0).bind fun t155 => (if t155 = true then (if (a1.size : Int) > 2147483647 then (laws_FnIdentifiersLonger.j0 k l0 a1 a2 a3 true) else (if (a2.size : Int) > 2147483647 then (laws_FnIdentifiersLonger.j0 k l0 a1 a2 a3 true) else (laws_FnIdentifiersLonger.j0 k l0 a1 a2 a3 (decide ((a3.size : Int) > 2147483647))))) else (laws_FnIdentifiersLonger.j0 k l0 a1 a2 a3 true))) = some r := h
  clear h
  have HC5 := Aside0.mk H
  clear H
  go_enter Tryd.func10, Tryd.ntmps10
  go_upto_region 1 with (fail)
  go_cut [29] (fun v29 wc => ∃ (kq : Nat) (x29_4 : Bool), v29 = .bool x29_4 ∧ Aside0 (laws_FnIdentifiersLonger.j0 kq l0 a1 a2 a3 x29_4 = some r) ∧ Aside0 (kq ≤ k) ∧ Aside0 (Below w.heap.size w wc))
  case first =>
    have H := HC5.out
    clear HC5
    replace H := Option.bind_eq_some_iff.mp H
    obtain ⟨t155, A60, H⟩ := H
    replace H : (if t155 = true then (if (a1.size : Int) > 2147483647 then (laws_FnIdentifiersLonger.j0 k l0 a1 a2 a3 true) else (if (a2.size : Int) > 2147483647 then (laws_FnIdentifiersLonger.j0 k l0 a1 a2 a3 true) else (laws_FnIdentifiersLonger.j0 k l0 a1 a2 a3 (decide ((a3.size : Int) > 2147483647))))) else (laws_FnIdentifiersLonger.j0 k l0 a1 a2 a3 true)) = some r := H
    have A6 := Aside0.mk A60
    clear A60
    by_cases c7 : t155 = true
    · subst c7
      have H1 : (if (a1.size : Int) > 2147483647 then (laws_FnIdentifiersLonger.j0 k l0 a1 a2 a3 true) else (if (a2.size : Int) > 2147483647 then (laws_FnIdentifiersLonger.j0 k l0 a1 a2 a3 true) else (laws_FnIdentifiersLonger.j0 k l0 a1 a2 a3 (decide ((a3.size : Int) > 2147483647))))) = some r := by rw [if_pos rfl] at H; exact H
      clear H
      have H := H1
      clear H1
      by_cases c8 : (a1.size : Int) > 2147483647
      · rw [if_pos c8] at H
        have c8b0 : decide (2147483647 < (a1.size : Int)) = true := decide_eq_true c8
        have c8b1 : decide (2147483647 < a1.size) = true := decide_eq_true (by omega)
        clear c8
        (first | rw [c8b0] | (simp only [i64_w, i32_w]; rw [c8b0]) | skip)
        have H' := Aside0.mk H
        clear H
        go_wp2_with (first | ((with_reducible refine gate_callee (f := 16) rfl ?_); refine goesL_ (some 13) rfl rfl Tryd.func16 (by kernel_rfl) rfl #[.slice A0 l0.length c0] rfl (by (try simp only [List.map_toArray, List.map_cons, List.map_nil]); first | done | rfl | (simp only [List.length_drop, List.length_take]; rfl)) ?_; (with_reducible refine (laws_zzFits1.calls k _ _ l0 true _ ?side1 ?side2 A6.out).mono ?_); (case side1 => repeat (first | exact (Kd.C_below HR0.out HB.out) | (with_reducible refine Kd.C_alloc ?_ _) | (with_reducible refine Kd.C_drewN ?_ _) | (with_reducible refine Kd.C_drew ?_))); (case side2 => exact HC0.out); rintro e w' ⟨rfl, ⟨nd, rfl⟩⟩; refine ⟨_, rfl, ?_⟩))
        go_meet
        case rel => exact ⟨_, (true), (by first | rfl | (simp; done) | (simp [*]; done) | (simp [bne_nil_]; done)), H', ⟨by first | omega | exact Nat.le_refl _⟩, ⟨by repeat (first | (with_reducible first | exact HB.out | apply below_alloc | apply pw_below_drewN | apply below_drew1) | exact HB.out)⟩⟩
      · rw [if_neg c8] at H
        have c8b0 : decide (2147483647 < (a1.size : Int)) = false := decide_eq_false c8
        have c8b1 : decide (2147483647 < a1.size) = false := decide_eq_false (by omega)
        clear c8
        (first | rw [c8b0] | (simp only [i64_w, i32_w]; rw [c8b0]) | skip)
        by_cases c9 : (a2.size : Int) > 2147483647
        · rw [if_pos c9] at H
          have c9b0 : decide (2147483647 < (a2.size : Int)) = true := decide_eq_true c9
          have c9b1 : decide (2147483647 < a2.size) = true := decide_eq_true (by omega)
          clear c9
          have H' := Aside0.mk H
          clear H
          go_wp2_with (first | ((with_reducible refine gate_callee (f := 16) rfl ?_); refine goesL_ (some 13) rfl rfl Tryd.func16 (by kernel_rfl) rfl #[.slice A0 l0.length c0] rfl (by (try simp only [List.map_toArray, List.map_cons, List.map_nil]); first | done | rfl | (simp only [List.length_drop, List.length_take]; rfl)) ?_; (with_reducible refine (laws_zzFits1.calls k _ _ l0 true _ ?side1 ?side2 A6.out).mono ?_); (case side1 => repeat (first | exact (Kd.C_below HR0.out HB.out) | (with_reducible refine Kd.C_alloc ?_ _) | (with_reducible refine Kd.C_drewN ?_ _) | (with_reducible refine Kd.C_drew ?_))); (case side2 => exact HC0.out); rintro e w' ⟨rfl, ⟨nd, rfl⟩⟩; refine ⟨_, rfl, ?_⟩))
          go_meet
          case rel => exact ⟨_, (true), (by first | rfl | (simp; done) | (simp [*]; done) | (simp [bne_nil_]; done)), H', ⟨by first | omega | exact Nat.le_refl _⟩, ⟨by repeat (first | (with_reducible first | exact HB.out | apply below_alloc | apply pw_below_drewN | apply below_drew1) | exact HB.out)⟩⟩
        · rw [if_neg c9] at H
          have c9b0 : decide (2147483647 < (a2.size : Int)) = false := decide_eq_false c9
          have c9b1 : decide (2147483647 < a2.size) = false := decide_eq_false (by omega)
          clear c9
          have H' := Aside0.mk H
          clear H
          go_wp2_with (first | ((with_reducible refine gate_callee (f := 16) rfl ?_); refine goesL_ (some 13) rfl rfl Tryd.func16 (by kernel_rfl) rfl #[.slice A0 l0.length c0] rfl (by (try simp only [List.map_toArray, List.map_cons, List.map_nil]); first | done | rfl | (simp only [List.length_drop, List.length_take]; rfl)) ?_; (with_reducible refine (laws_zzFits1.calls k _ _ l0 true _ ?side1 ?side2 A6.out).mono ?_); (case side1 => repeat (first | exact (Kd.C_below HR0.out HB.out) | (with_reducible refine Kd.C_alloc ?_ _) | (with_reducible refine Kd.C_drewN ?_ _) | (with_reducible refine Kd.C_drew ?_))); (case side2 => exact HC0.out); rintro e w' ⟨rfl, ⟨nd, rfl⟩⟩; refine ⟨_, rfl, ?_⟩))
          go_meet
          case rel => exact ⟨_, (decide ((a3.size : Int) > 2147483647)), (by first | rfl | (simp; done) | (simp [*]; done) | (simp [bne_nil_]; done)), H', ⟨by first | omega | exact Nat.le_refl _⟩, ⟨by repeat (first | (with_reducible first | exact HB.out | apply below_alloc | apply pw_below_drewN | apply below_drew1) | exact HB.out)⟩⟩
    · replace c7 := Bool.eq_false_iff.mpr c7
      subst c7
      have H1 : (laws_FnIdentifiersLonger.j0 k l0 a1 a2 a3 true) = some r := by rw [if_neg (show ¬ (false = true) by decide)] at H; exact H
      clear H
      have H := H1
      clear H1
      have H' := Aside0.mk H
      clear H
      go_wp2_with (first | ((with_reducible refine gate_callee (f := 16) rfl ?_); refine goesL_ (some 13) rfl rfl Tryd.func16 (by kernel_rfl) rfl #[.slice A0 l0.length c0] rfl (by (try simp only [List.map_toArray, List.map_cons, List.map_nil]); first | done | rfl | (simp only [List.length_drop, List.length_take]; rfl)) ?_; (with_reducible refine (laws_zzFits1.calls k _ _ l0 false _ ?side1 ?side2 A6.out).mono ?_); (case side1 => repeat (first | exact (Kd.C_below HR0.out HB.out) | (with_reducible refine Kd.C_alloc ?_ _) | (with_reducible refine Kd.C_drewN ?_ _) | (with_reducible refine Kd.C_drew ?_))); (case side2 => exact HC0.out); rintro e w' ⟨rfl, ⟨nd, rfl⟩⟩; refine ⟨_, rfl, ?_⟩))
      go_meet
      case rel => exact ⟨_, (true), (by first | rfl | (simp; done) | (simp [*]; done) | (simp [bne_nil_]; done)), H', ⟨by first | omega | exact Nat.le_refl _⟩, ⟨by repeat (first | (with_reducible first | exact HB.out | apply below_alloc | apply pw_below_drewN | apply below_drew1) | exact HB.out)⟩⟩
  case rest =>
    clear HC5
    try clear c1
    try clear p2
    try clear c7
    try clear c8
    try clear c8b0
    try clear c8b1
    try clear c9
    try clear c9b0
    try clear c9b1
    obtain ⟨kq, x29_4, rfl, HA, HJ4, HB⟩ := hcut
    cases kq with
    | zero => exact absurd HA.out (by simp [laws_FnIdentifiersLonger.j0])
    | succ kj4 =>
      have H := HA.out
      clear HA
      simp only [laws_FnIdentifiersLonger.j0] at H
      by_cases c10 : x29_4 = true
      · subst c10
        have H1 : (some true) = some r := by rw [if_pos rfl] at H; exact H
        clear H
        have H := H1
        clear H1
        obtain rfl := Option.some.inj H
        go_wp2
        go_ret
        exact ⟨by first | rfl | (simp [errW_none, errW_some] <;> rfl) | (simp [*, errW_none, errW_some] <;> rfl) | (simp [bne_nil_]; done), by repeat (first | (with_reducible first | exact HB.out | apply below_alloc | apply pw_below_drewN | apply below_drew1) | exact HB.out)⟩
      · replace c10 := Bool.eq_false_iff.mpr c10
        subst c10
        have H1 : ((laws_short.f kj4 l0).bind fun t156 => (if t156 = true then ((laws_short.f kj4 (([a1, a2, a3] : List ByteArray))).bind fun t160 => (if t160 = true then ((laws_digits.f kj4 a2).bind fun t161 => (if t161 = true then ((laws_plain.f kj4 a3 (⟨#[]⟩ : ByteArray)).bind fun t162 => (if t162 = true then ((laws_digits.f kj4 a3).bind fun t163 => (if t163 = true then (laws_FnIdentifiersLonger.j1 kj4 l0 a1 a2 a3 true) else ((spec_IdentifiersKnown.f kj4 l0).bind fun t164 => (if t164 = true then ((spec_IdentifiersKnown.f kj4 (([a1] : List ByteArray))).bind fun t168 => (laws_FnIdentifiersLonger.j1 kj4 l0 a1 a2 a3 (!t168))) else (laws_FnIdentifiersLonger.j1 kj4 l0 a1 a2 a3 true))))) else (laws_FnIdentifiersLonger.j1 kj4 l0 a1 a2 a3 true))) else (laws_FnIdentifiersLonger.j1 kj4 l0 a1 a2 a3 true))) else (laws_FnIdentifiersLonger.j1 kj4 l0 a1 a2 a3 true))) else (laws_FnIdentifiersLonger.j1 kj4 l0 a1 a2 a3 true))) = some r := by rw [if_neg (show ¬ (false = true) by decide)] at H; exact H
        clear H
        have H := H1
        clear H1
        have HC11 := Aside0.mk H
        clear H
        go_upto_region 3 with (fail)
        go_cut [65] (fun v65 wc => ∃ (kq : Nat) (x65_10 : Bool), v65 = .bool x65_10 ∧ Aside0 (laws_FnIdentifiersLonger.j1 kq l0 a1 a2 a3 x65_10 = some r) ∧ Aside0 (kq ≤ kj4) ∧ Aside0 (Below w.heap.size w wc))
        case first =>
          have H := HC11.out
          clear HC11
          replace H := Option.bind_eq_some_iff.mp H
          obtain ⟨t156, A120, H⟩ := H
          replace H : (if t156 = true then ((laws_short.f kj4 (([a1, a2, a3] : List ByteArray))).bind fun t160 => (if t160 = true then ((laws_digits.f kj4 a2).bind fun t161 => (if t161 = true then ((laws_plain.f kj4 a3 (⟨#[]⟩ : ByteArray)).bind fun t162 => (if t162 = true then ((laws_digits.f kj4 a3).bind fun t163 => (if t163 = true then (laws_FnIdentifiersLonger.j1 kj4 l0 a1 a2 a3 true) else ((spec_IdentifiersKnown.f kj4 l0).bind fun t164 => (if t164 = true then ((spec_IdentifiersKnown.f kj4 (([a1] : List ByteArray))).bind fun t168 => (laws_FnIdentifiersLonger.j1 kj4 l0 a1 a2 a3 (!t168))) else (laws_FnIdentifiersLonger.j1 kj4 l0 a1 a2 a3 true))))) else (laws_FnIdentifiersLonger.j1 kj4 l0 a1 a2 a3 true))) else (laws_FnIdentifiersLonger.j1 kj4 l0 a1 a2 a3 true))) else (laws_FnIdentifiersLonger.j1 kj4 l0 a1 a2 a3 true))) else (laws_FnIdentifiersLonger.j1 kj4 l0 a1 a2 a3 true)) = some r := H
          have A12 := Aside0.mk A120
          clear A120
          by_cases c13 : t156 = true
          · subst c13
            have H1 : ((laws_short.f kj4 (([a1, a2, a3] : List ByteArray))).bind fun t160 => (if t160 = true then ((laws_digits.f kj4 a2).bind fun t161 => (if t161 = true then ((laws_plain.f kj4 a3 (⟨#[]⟩ : ByteArray)).bind fun t162 => (if t162 = true then ((laws_digits.f kj4 a3).bind fun t163 => (if t163 = true then (laws_FnIdentifiersLonger.j1 kj4 l0 a1 a2 a3 true) else ((spec_IdentifiersKnown.f kj4 l0).bind fun t164 => (if t164 = true then ((spec_IdentifiersKnown.f kj4 (([a1] : List ByteArray))).bind fun t168 => (laws_FnIdentifiersLonger.j1 kj4 l0 a1 a2 a3 (!t168))) else (laws_FnIdentifiersLonger.j1 kj4 l0 a1 a2 a3 true))))) else (laws_FnIdentifiersLonger.j1 kj4 l0 a1 a2 a3 true))) else (laws_FnIdentifiersLonger.j1 kj4 l0 a1 a2 a3 true))) else (laws_FnIdentifiersLonger.j1 kj4 l0 a1 a2 a3 true))) = some r := by rw [if_pos rfl] at H; exact H
            clear H
            have H := H1
            clear H1
            obtain ⟨y157, hy157⟩ : ∃ y_ : List ByteArray, y_ = (([a1, a2, a3] : List ByteArray)) := ⟨_, rfl⟩
            replace H : ((laws_short.f kj4 y157).bind fun t160 => (if t160 = true then ((laws_digits.f kj4 a2).bind fun t161 => (if t161 = true then ((laws_plain.f kj4 a3 (⟨#[]⟩ : ByteArray)).bind fun t162 => (if t162 = true then ((laws_digits.f kj4 a3).bind fun t163 => (if t163 = true then (laws_FnIdentifiersLonger.j1 kj4 l0 a1 a2 a3 true) else ((spec_IdentifiersKnown.f kj4 l0).bind fun t164 => (if t164 = true then ((spec_IdentifiersKnown.f kj4 (([a1] : List ByteArray))).bind fun t168 => (laws_FnIdentifiersLonger.j1 kj4 l0 a1 a2 a3 (!t168))) else (laws_FnIdentifiersLonger.j1 kj4 l0 a1 a2 a3 true))))) else (laws_FnIdentifiersLonger.j1 kj4 l0 a1 a2 a3 true))) else (laws_FnIdentifiersLonger.j1 kj4 l0 a1 a2 a3 true))) else (laws_FnIdentifiersLonger.j1 kj4 l0 a1 a2 a3 true))) = some r := by first | (rw [hy157]; with_reducible exact H) | (have H2_ := (Option.bind_some _ _).symm.trans H; rw [hy157]; with_reducible exact H2_) | (have H2_ := (Option.bind_some _ _).symm.trans H; with_reducible exact H2_) | with_reducible exact H | (rw [hy157]; exact H) | exact H
            have Ny157 := Aside0.mk hy157
            clear hy157
            replace H := Option.bind_eq_some_iff.mp H
            obtain ⟨t160, A140, H⟩ := H
            replace H : (if t160 = true then ((laws_digits.f kj4 a2).bind fun t161 => (if t161 = true then ((laws_plain.f kj4 a3 (⟨#[]⟩ : ByteArray)).bind fun t162 => (if t162 = true then ((laws_digits.f kj4 a3).bind fun t163 => (if t163 = true then (laws_FnIdentifiersLonger.j1 kj4 l0 a1 a2 a3 true) else ((spec_IdentifiersKnown.f kj4 l0).bind fun t164 => (if t164 = true then ((spec_IdentifiersKnown.f kj4 (([a1] : List ByteArray))).bind fun t168 => (laws_FnIdentifiersLonger.j1 kj4 l0 a1 a2 a3 (!t168))) else (laws_FnIdentifiersLonger.j1 kj4 l0 a1 a2 a3 true))))) else (laws_FnIdentifiersLonger.j1 kj4 l0 a1 a2 a3 true))) else (laws_FnIdentifiersLonger.j1 kj4 l0 a1 a2 a3 true))) else (laws_FnIdentifiersLonger.j1 kj4 l0 a1 a2 a3 true)) = some r := H
            have A14 := Aside0.mk A140
            clear A140
            by_cases c15 : t160 = true
            · subst c15
              have H1 : ((laws_digits.f kj4 a2).bind fun t161 => (if t161 = true then ((laws_plain.f kj4 a3 (⟨#[]⟩ : ByteArray)).bind fun t162 => (if t162 = true then ((laws_digits.f kj4 a3).bind fun t163 => (if t163 = true then (laws_FnIdentifiersLonger.j1 kj4 l0 a1 a2 a3 true) else ((spec_IdentifiersKnown.f kj4 l0).bind fun t164 => (if t164 = true then ((spec_IdentifiersKnown.f kj4 (([a1] : List ByteArray))).bind fun t168 => (laws_FnIdentifiersLonger.j1 kj4 l0 a1 a2 a3 (!t168))) else (laws_FnIdentifiersLonger.j1 kj4 l0 a1 a2 a3 true))))) else (laws_FnIdentifiersLonger.j1 kj4 l0 a1 a2 a3 true))) else (laws_FnIdentifiersLonger.j1 kj4 l0 a1 a2 a3 true))) = some r := by rw [if_pos rfl] at H; exact H
              clear H
              have H := H1
              clear H1
              replace H := Option.bind_eq_some_iff.mp H
              obtain ⟨t161, A160, H⟩ := H
              replace H : (if t161 = true then ((laws_plain.f kj4 a3 (⟨#[]⟩ : ByteArray)).bind fun t162 => (if t162 = true then ((laws_digits.f kj4 a3).bind fun t163 => (if t163 = true then (laws_FnIdentifiersLonger.j1 kj4 l0 a1 a2 a3 true) else ((spec_IdentifiersKnown.f kj4 l0).bind fun t164 => (if t164 = true then ((spec_IdentifiersKnown.f kj4 (([a1] : List ByteArray))).bind fun t168 => (laws_FnIdentifiersLonger.j1 kj4 l0 a1 a2 a3 (!t168))) else (laws_FnIdentifiersLonger.j1 kj4 l0 a1 a2 a3 true))))) else (laws_FnIdentifiersLonger.j1 kj4 l0 a1 a2 a3 true))) else (laws_FnIdentifiersLonger.j1 kj4 l0 a1 a2 a3 true)) = some r := H
              have A16 := Aside0.mk A160
              clear A160
              by_cases c17 : t161 = true
              · subst c17
                have H1 : ((laws_plain.f kj4 a3 (⟨#[]⟩ : ByteArray)).bind fun t162 => (if t162 = true then ((laws_digits.f kj4 a3).bind fun t163 => (if t163 = true then (laws_FnIdentifiersLonger.j1 kj4 l0 a1 a2 a3 true) else ((spec_IdentifiersKnown.f kj4 l0).bind fun t164 => (if t164 = true then ((spec_IdentifiersKnown.f kj4 (([a1] : List ByteArray))).bind fun t168 => (laws_FnIdentifiersLonger.j1 kj4 l0 a1 a2 a3 (!t168))) else (laws_FnIdentifiersLonger.j1 kj4 l0 a1 a2 a3 true))))) else (laws_FnIdentifiersLonger.j1 kj4 l0 a1 a2 a3 true))) = some r := by rw [if_pos rfl] at H; exact H
                clear H
                have H := H1
                clear H1
                replace H := Option.bind_eq_some_iff.mp H
                obtain ⟨t162, A180, H⟩ := H
                replace H : (if t162 = true then ((laws_digits.f kj4 a3).bind fun t163 => (if t163 = true then (laws_FnIdentifiersLonger.j1 kj4 l0 a1 a2 a3 true) else ((spec_IdentifiersKnown.f kj4 l0).bind fun t164 => (if t164 = true then ((spec_IdentifiersKnown.f kj4 (([a1] : List ByteArray))).bind fun t168 => (laws_FnIdentifiersLonger.j1 kj4 l0 a1 a2 a3 (!t168))) else (laws_FnIdentifiersLonger.j1 kj4 l0 a1 a2 a3 true))))) else (laws_FnIdentifiersLonger.j1 kj4 l0 a1 a2 a3 true)) = some r := H
                have A18 := Aside0.mk A180
                clear A180
                by_cases c19 : t162 = true
                · subst c19
                  have H1 : ((laws_digits.f kj4 a3).bind fun t163 => (if t163 = true then (laws_FnIdentifiersLonger.j1 kj4 l0 a1 a2 a3 true) else ((spec_IdentifiersKnown.f kj4 l0).bind fun t164 => (if t164 = true then ((spec_IdentifiersKnown.f kj4 (([a1] : List ByteArray))).bind fun t168 => (laws_FnIdentifiersLonger.j1 kj4 l0 a1 a2 a3 (!t168))) else (laws_FnIdentifiersLonger.j1 kj4 l0 a1 a2 a3 true))))) = some r := by rw [if_pos rfl] at H; exact H
                  clear H
                  have H := H1
                  clear H1
                  replace H := Option.bind_eq_some_iff.mp H
                  obtain ⟨t163, A200, H⟩ := H
                  replace H : (if t163 = true then (laws_FnIdentifiersLonger.j1 kj4 l0 a1 a2 a3 true) else ((spec_IdentifiersKnown.f kj4 l0).bind fun t164 => (if t164 = true then ((spec_IdentifiersKnown.f kj4 (([a1] : List ByteArray))).bind fun t168 => (laws_FnIdentifiersLonger.j1 kj4 l0 a1 a2 a3 (!t168))) else (laws_FnIdentifiersLonger.j1 kj4 l0 a1 a2 a3 true)))) = some r := H
                  have A20 := Aside0.mk A200
                  clear A200
                  by_cases c21 : t163 = true
                  · subst c21
                    have H1 : (laws_FnIdentifiersLonger.j1 kj4 l0 a1 a2 a3 true) = some r := by rw [if_pos rfl] at H; exact H
                    clear H
                    have H := H1
                    clear H1
                    have H' := Aside0.mk H
                    clear H
                    go_wp2_with (first | ((with_reducible refine gate_callee (f := 14) rfl ?_); refine goesL_ (some 31) rfl rfl Tryd.func14 (by kernel_rfl) rfl #[.slice A0 l0.length c0] rfl (by (try simp only [List.map_toArray, List.map_cons, List.map_nil]); first | done | rfl | (simp only [List.length_drop, List.length_take]; rfl)) ?_; (with_reducible refine (laws_short.calls kj4 _ _ l0 true _ ?side1 ?side2 A12.out).mono ?_); (case side1 => repeat (first | exact (Kd.C_below HR0.out HB.out) | (with_reducible refine Kd.C_alloc ?_ _) | (with_reducible refine Kd.C_drewN ?_ _) | (with_reducible refine Kd.C_drew ?_))); (case side2 => exact HC0.out); rintro e w' ⟨rfl, ⟨nd, rfl⟩⟩; refine ⟨_, rfl, ?_⟩) | ((with_reducible refine gate_dst (N := 37) rfl ?_); (try (refine gate_guard (by rfl) ?_; dsimp only)); refine Kd.R_lit Kd.string _ 9 ?hg (N := 37) ?hd (xs := ([a1, a2, a3] : List ByteArray)) (inner := [.string a1, .string a2, .string a3]) (ok := fun _ => True) (okp := fun _ => True) ?hr ?hp (fun _ hk => hk) trivial (Below.refl _ _) (Nat.le_refl _) (by simp) ?_; (case hd => rfl); (case hg => rfl); (case hr => first | (go_simp; done) | (go_simp; rfl)); (case hp => exact (Reps.one (show Kd.M Kd.string _ _ _ a1 [.string a1] from rfl) (Reps.one (show Kd.M Kd.string _ _ _ a2 [.string a2] from rfl) (Reps.one (show Kd.M Kd.string _ _ _ a3 [.string a3] from rfl) (Reps.none _ _))))); intro v158 w22 ho23 hb hg_ hnew_; clear hg_ hnew_; (first | rw [← Ny157.out] at ho23 | (simp only [Int.reduceToNat] at ho23; rw [← Ny157.out] at ho23)); have n0_ := Aside0.mk (Kd.R_lower ho23 (below_size (by repeat (first | (with_reducible first | exact HB.out | apply below_alloc | apply pw_below_drewN | apply below_drew1) | exact HB.out)))); have n1_ := Aside0.mk (below_step (by repeat (first | (with_reducible first | exact HB.out | apply below_alloc | apply pw_below_drewN | apply below_drew1) | exact HB.out)) hb); clear HB; have HO159 := n0_; have HB := n1_; clear n0_ n1_; clear hb ho23; obtain ⟨Ao24, co24, eo24⟩ := Kd.R_slice HO159.out; subst eo24) | (go_at_call 14; (with_reducible refine (laws_short.calls kj4 _ _ y157 true _ ?side1 ?side2 A14.out).mono ?_); (case side1 => repeat (first | exact (Kd.R_reads' HO159.out).2.2 | (with_reducible refine Kd.C_alloc ?_ _) | (with_reducible refine Kd.C_drewN ?_ _) | (with_reducible refine Kd.C_drew ?_))); (case side2 => exact (Kd.R_reads' HO159.out).2.1); rintro e w' ⟨rfl, ⟨nd, rfl⟩⟩) | (go_at_call 33; (with_reducible refine (laws_digits.calls kj4 a2 true _ A16.out).mono ?_); rintro e w' ⟨rfl, ⟨nd, rfl⟩⟩) | (go_at_call 34; (with_reducible refine (laws_plain.calls kj4 a3 (⟨#[]⟩ : ByteArray) true _ A18.out).mono ?_); rintro e w' ⟨rfl, ⟨nd, rfl⟩⟩) | (go_at_call 33; (with_reducible refine (laws_digits.calls kj4 a3 true _ A20.out).mono ?_); rintro e w' ⟨rfl, ⟨nd, rfl⟩⟩))
                    go_meet
                    case rel => exact ⟨_, (true), (by first | rfl | (simp; done) | (simp [*]; done) | (simp [bne_nil_]; done)), H', ⟨by have := HJ4.out; first | omega | exact Nat.le_refl _⟩, ⟨by repeat (first | (with_reducible first | exact HB.out | apply below_alloc | apply pw_below_drewN | apply below_drew1) | exact HB.out)⟩⟩
                  · replace c21 := Bool.eq_false_iff.mpr c21
                    subst c21
                    have H1 : ((spec_IdentifiersKnown.f kj4 l0).bind fun t164 => (if t164 = true then ((spec_IdentifiersKnown.f kj4 (([a1] : List ByteArray))).bind fun t168 => (laws_FnIdentifiersLonger.j1 kj4 l0 a1 a2 a3 (!t168))) else (laws_FnIdentifiersLonger.j1 kj4 l0 a1 a2 a3 true))) = some r := by rw [if_neg (show ¬ (false = true) by decide)] at H; exact H
                    clear H
                    have H := H1
                    clear H1
                    replace H := Option.bind_eq_some_iff.mp H
                    obtain ⟨t164, A250, H⟩ := H
                    replace H : (if t164 = true then ((spec_IdentifiersKnown.f kj4 (([a1] : List ByteArray))).bind fun t168 => (laws_FnIdentifiersLonger.j1 kj4 l0 a1 a2 a3 (!t168))) else (laws_FnIdentifiersLonger.j1 kj4 l0 a1 a2 a3 true)) = some r := H
                    have A25 := Aside0.mk A250
                    clear A250
                    by_cases c26 : t164 = true
                    · subst c26
                      have H1 : ((spec_IdentifiersKnown.f kj4 (([a1] : List ByteArray))).bind fun t168 => (laws_FnIdentifiersLonger.j1 kj4 l0 a1 a2 a3 (!t168))) = some r := by rw [if_pos rfl] at H; exact H
                      clear H
                      have H := H1
                      clear H1
                      obtain ⟨y165, hy165⟩ : ∃ y_ : List ByteArray, y_ = (([a1] : List ByteArray)) := ⟨_, rfl⟩
                      replace H : ((spec_IdentifiersKnown.f kj4 y165).bind fun t168 => (laws_FnIdentifiersLonger.j1 kj4 l0 a1 a2 a3 (!t168))) = some r := by first | (rw [hy165]; with_reducible exact H) | (have H2_ := (Option.bind_some _ _).symm.trans H; rw [hy165]; with_reducible exact H2_) | (have H2_ := (Option.bind_some _ _).symm.trans H; with_reducible exact H2_) | with_reducible exact H | (rw [hy165]; exact H) | exact H
                      have Ny165 := Aside0.mk hy165
                      clear hy165
                      replace H := Option.bind_eq_some_iff.mp H
                      obtain ⟨t168, A270, H⟩ := H
                      replace H : (laws_FnIdentifiersLonger.j1 kj4 l0 a1 a2 a3 (!t168)) = some r := H
                      have A27 := Aside0.mk A270
                      clear A270
                      have H' := Aside0.mk H
                      clear H
                      go_wp2_with (first | ((with_reducible refine gate_callee (f := 14) rfl ?_); refine goesL_ (some 31) rfl rfl Tryd.func14 (by kernel_rfl) rfl #[.slice A0 l0.length c0] rfl (by (try simp only [List.map_toArray, List.map_cons, List.map_nil]); first | done | rfl | (simp only [List.length_drop, List.length_take]; rfl)) ?_; (with_reducible refine (laws_short.calls kj4 _ _ l0 true _ ?side1 ?side2 A12.out).mono ?_); (case side1 => repeat (first | exact (Kd.C_below HR0.out HB.out) | (with_reducible refine Kd.C_alloc ?_ _) | (with_reducible refine Kd.C_drewN ?_ _) | (with_reducible refine Kd.C_drew ?_))); (case side2 => exact HC0.out); rintro e w' ⟨rfl, ⟨nd, rfl⟩⟩; refine ⟨_, rfl, ?_⟩) | ((with_reducible refine gate_dst (N := 37) rfl ?_); (try (refine gate_guard (by rfl) ?_; dsimp only)); refine Kd.R_lit Kd.string _ 9 ?hg (N := 37) ?hd (xs := ([a1, a2, a3] : List ByteArray)) (inner := [.string a1, .string a2, .string a3]) (ok := fun _ => True) (okp := fun _ => True) ?hr ?hp (fun _ hk => hk) trivial (Below.refl _ _) (Nat.le_refl _) (by simp) ?_; (case hd => rfl); (case hg => rfl); (case hr => first | (go_simp; done) | (go_simp; rfl)); (case hp => exact (Reps.one (show Kd.M Kd.string _ _ _ a1 [.string a1] from rfl) (Reps.one (show Kd.M Kd.string _ _ _ a2 [.string a2] from rfl) (Reps.one (show Kd.M Kd.string _ _ _ a3 [.string a3] from rfl) (Reps.none _ _))))); intro v158 w28 ho29 hb hg_ hnew_; clear hg_ hnew_; (first | rw [← Ny157.out] at ho29 | (simp only [Int.reduceToNat] at ho29; rw [← Ny157.out] at ho29)); have n0_ := Aside0.mk (Kd.R_lower ho29 (below_size (by repeat (first | (with_reducible first | exact HB.out | apply below_alloc | apply pw_below_drewN | apply below_drew1) | exact HB.out)))); have n1_ := Aside0.mk (below_step (by repeat (first | (with_reducible first | exact HB.out | apply below_alloc | apply pw_below_drewN | apply below_drew1) | exact HB.out)) hb); clear HB; have HO159 := n0_; have HB := n1_; clear n0_ n1_; clear hb ho29; obtain ⟨Ao30, co30, eo30⟩ := Kd.R_slice HO159.out; subst eo30) | (go_at_call 14; (with_reducible refine (laws_short.calls kj4 _ _ y157 true _ ?side1 ?side2 A14.out).mono ?_); (case side1 => repeat (first | exact (Kd.R_reads' HO159.out).2.2 | (with_reducible refine Kd.C_alloc ?_ _) | (with_reducible refine Kd.C_drewN ?_ _) | (with_reducible refine Kd.C_drew ?_))); (case side2 => exact (Kd.R_reads' HO159.out).2.1); rintro e w' ⟨rfl, ⟨nd, rfl⟩⟩) | (go_at_call 33; (with_reducible refine (laws_digits.calls kj4 a2 true _ A16.out).mono ?_); rintro e w' ⟨rfl, ⟨nd, rfl⟩⟩) | (go_at_call 34; (with_reducible refine (laws_plain.calls kj4 a3 (⟨#[]⟩ : ByteArray) true _ A18.out).mono ?_); rintro e w' ⟨rfl, ⟨nd, rfl⟩⟩) | (go_at_call 33; (with_reducible refine (laws_digits.calls kj4 a3 false _ A20.out).mono ?_); rintro e w' ⟨rfl, ⟨nd, rfl⟩⟩) | (go_at_call 35; (with_reducible refine (spec_IdentifiersKnown.calls kj4 _ _ l0 true _ ?side1 ?side2 A25.out).mono ?_); (case side1 => repeat (first | exact (Kd.C_below HR0.out (by repeat (first | (with_reducible first | exact HB.out | apply below_alloc | apply pw_below_drewN | apply below_drew1) | exact HB.out))) | (with_reducible refine Kd.C_alloc ?_ _) | (with_reducible refine Kd.C_drewN ?_ _) | (with_reducible refine Kd.C_drew ?_))); (case side2 => exact HC0.out); rintro e w' ⟨rfl, ⟨nd, rfl⟩⟩) | ((with_reducible refine gate_dst (N := 62) rfl ?_); (try (refine gate_guard (by rfl) ?_; dsimp only)); refine Kd.R_lit Kd.string _ 9 ?hg (N := 62) ?hd (xs := ([a1] : List ByteArray)) (inner := [.string a1]) (ok := fun _ => True) (okp := fun _ => True) ?hr ?hp (fun _ hk => hk) trivial (Below.refl _ _) (Nat.le_refl _) (by simp) ?_; (case hd => rfl); (case hg => rfl); (case hr => first | (go_simp; done) | (go_simp; rfl)); (case hp => exact (Reps.one (show Kd.M Kd.string _ _ _ a1 [.string a1] from rfl) (Reps.none _ _))); intro v166 w31 ho32 hb hg_ hnew_; clear hg_ hnew_; (first | rw [← Ny165.out] at ho32 | (simp only [Int.reduceToNat] at ho32; rw [← Ny165.out] at ho32)); have n0_ := Aside0.mk (Kd.R_elder' (by (with_reducible repeat (first | apply Kd.R_alloc | apply Kd.R_drewN | apply Kd.R_drew)); exact HO159.out) (Kd.R_base ho32) hb); have n1_ := Aside0.mk (Kd.R_lower (Kd.R_new' ho32 (Kd.R_lt (by (with_reducible repeat (first | apply Kd.R_alloc | apply Kd.R_drewN | apply Kd.R_drew)); exact HO159.out))) (below_size (by repeat (first | (with_reducible first | exact HB.out | apply below_alloc | apply pw_below_drewN | apply below_drew1) | exact HB.out)))); have n2_ := Aside0.mk (below_step (by repeat (first | (with_reducible first | exact HB.out | apply below_alloc | apply pw_below_drewN | apply below_drew1) | exact HB.out)) hb); clear HO159; clear HB; have HO159 := n0_; have HO167 := n1_; have HB := n2_; clear n0_ n1_ n2_; clear hb ho32; obtain ⟨Ao33, co33, eo33⟩ := Kd.R_slice HO167.out; subst eo33) | (go_at_call 35; (with_reducible refine (spec_IdentifiersKnown.calls kj4 _ _ y165 t168 _ ?side1 ?side2 A27.out).mono ?_); (case side1 => repeat (first | exact (Kd.R_reads' HO167.out).2.2 | (with_reducible refine Kd.C_alloc ?_ _) | (with_reducible refine Kd.C_drewN ?_ _) | (with_reducible refine Kd.C_drew ?_))); (case side2 => exact (Kd.R_reads' HO167.out).2.1); rintro e w' ⟨rfl, ⟨nd, rfl⟩⟩))
                      go_meet
                      case rel => exact ⟨_, (!t168), (by first | rfl | (simp; done) | (simp [*]; done) | (simp [bne_nil_]; done)), H', ⟨by have := HJ4.out; first | omega | exact Nat.le_refl _⟩, ⟨by repeat (first | (with_reducible first | exact HB.out | apply below_alloc | apply pw_below_drewN | apply below_drew1) | exact HB.out)⟩⟩
                    · replace c26 := Bool.eq_false_iff.mpr c26
                      subst c26
                      have H1 : (laws_FnIdentifiersLonger.j1 kj4 l0 a1 a2 a3 true) = some r := by rw [if_neg (show ¬ (false = true) by decide)] at H; exact H
                      clear H
                      have H := H1
                      clear H1
                      have H' := Aside0.mk H
                      clear H
                      go_wp2_with (first | ((with_reducible refine gate_callee (f := 14) rfl ?_); refine goesL_ (some 31) rfl rfl Tryd.func14 (by kernel_rfl) rfl #[.slice A0 l0.length c0] rfl (by (try simp only [List.map_toArray, List.map_cons, List.map_nil]); first | done | rfl | (simp only [List.length_drop, List.length_take]; rfl)) ?_; (with_reducible refine (laws_short.calls kj4 _ _ l0 true _ ?side1 ?side2 A12.out).mono ?_); (case side1 => repeat (first | exact (Kd.C_below HR0.out HB.out) | (with_reducible refine Kd.C_alloc ?_ _) | (with_reducible refine Kd.C_drewN ?_ _) | (with_reducible refine Kd.C_drew ?_))); (case side2 => exact HC0.out); rintro e w' ⟨rfl, ⟨nd, rfl⟩⟩; refine ⟨_, rfl, ?_⟩) | ((with_reducible refine gate_dst (N := 37) rfl ?_); (try (refine gate_guard (by rfl) ?_; dsimp only)); refine Kd.R_lit Kd.string _ 9 ?hg (N := 37) ?hd (xs := ([a1, a2, a3] : List ByteArray)) (inner := [.string a1, .string a2, .string a3]) (ok := fun _ => True) (okp := fun _ => True) ?hr ?hp (fun _ hk => hk) trivial (Below.refl _ _) (Nat.le_refl _) (by simp) ?_; (case hd => rfl); (case hg => rfl); (case hr => first | (go_simp; done) | (go_simp; rfl)); (case hp => exact (Reps.one (show Kd.M Kd.string _ _ _ a1 [.string a1] from rfl) (Reps.one (show Kd.M Kd.string _ _ _ a2 [.string a2] from rfl) (Reps.one (show Kd.M Kd.string _ _ _ a3 [.string a3] from rfl) (Reps.none _ _))))); intro v158 w34 ho35 hb hg_ hnew_; clear hg_ hnew_; (first | rw [← Ny157.out] at ho35 | (simp only [Int.reduceToNat] at ho35; rw [← Ny157.out] at ho35)); have n0_ := Aside0.mk (Kd.R_lower ho35 (below_size (by repeat (first | (with_reducible first | exact HB.out | apply below_alloc | apply pw_below_drewN | apply below_drew1) | exact HB.out)))); have n1_ := Aside0.mk (below_step (by repeat (first | (with_reducible first | exact HB.out | apply below_alloc | apply pw_below_drewN | apply below_drew1) | exact HB.out)) hb); clear HB; have HO159 := n0_; have HB := n1_; clear n0_ n1_; clear hb ho35; obtain ⟨Ao36, co36, eo36⟩ := Kd.R_slice HO159.out; subst eo36) | (go_at_call 14; (with_reducible refine (laws_short.calls kj4 _ _ y157 true _ ?side1 ?side2 A14.out).mono ?_); (case side1 => repeat (first | exact (Kd.R_reads' HO159.out).2.2 | (with_reducible refine Kd.C_alloc ?_ _) | (with_reducible refine Kd.C_drewN ?_ _) | (with_reducible refine Kd.C_drew ?_))); (case side2 => exact (Kd.R_reads' HO159.out).2.1); rintro e w' ⟨rfl, ⟨nd, rfl⟩⟩) | (go_at_call 33; (with_reducible refine (laws_digits.calls kj4 a2 true _ A16.out).mono ?_); rintro e w' ⟨rfl, ⟨nd, rfl⟩⟩) | (go_at_call 34; (with_reducible refine (laws_plain.calls kj4 a3 (⟨#[]⟩ : ByteArray) true _ A18.out).mono ?_); rintro e w' ⟨rfl, ⟨nd, rfl⟩⟩) | (go_at_call 33; (with_reducible refine (laws_digits.calls kj4 a3 false _ A20.out).mono ?_); rintro e w' ⟨rfl, ⟨nd, rfl⟩⟩) | (go_at_call 35; (with_reducible refine (spec_IdentifiersKnown.calls kj4 _ _ l0 false _ ?side1 ?side2 A25.out).mono ?_); (case side1 => repeat (first | exact (Kd.C_below HR0.out (by repeat (first | (with_reducible first | exact HB.out | apply below_alloc | apply pw_below_drewN | apply below_drew1) | exact HB.out))) | (with_reducible refine Kd.C_alloc ?_ _) | (with_reducible refine Kd.C_drewN ?_ _) | (with_reducible refine Kd.C_drew ?_))); (case side2 => exact HC0.out); rintro e w' ⟨rfl, ⟨nd, rfl⟩⟩))
                      go_meet
                      case rel => exact ⟨_, (true), (by first | rfl | (simp; done) | (simp [*]; done) | (simp [bne_nil_]; done)), H', ⟨by have := HJ4.out; first | omega | exact Nat.le_refl _⟩, ⟨by repeat (first | (with_reducible first | exact HB.out | apply below_alloc | apply pw_below_drewN | apply below_drew1) | exact HB.out)⟩⟩
                · replace c19 := Bool.eq_false_iff.mpr c19
                  subst c19
                  have H1 : (laws_FnIdentifiersLonger.j1 kj4 l0 a1 a2 a3 true) = some r := by rw [if_neg (show ¬ (false = true) by decide)] at H; exact H
                  clear H
                  have H := H1
                  clear H1
                  have H' := Aside0.mk H
                  clear H
                  go_wp2_with (first | ((with_reducible refine gate_callee (f := 14) rfl ?_); refine goesL_ (some 31) rfl rfl Tryd.func14 (by kernel_rfl) rfl #[.slice A0 l0.length c0] rfl (by (try simp only [List.map_toArray, List.map_cons, List.map_nil]); first | done | rfl | (simp only [List.length_drop, List.length_take]; rfl)) ?_; (with_reducible refine (laws_short.calls kj4 _ _ l0 true _ ?side1 ?side2 A12.out).mono ?_); (case side1 => repeat (first | exact (Kd.C_below HR0.out HB.out) | (with_reducible refine Kd.C_alloc ?_ _) | (with_reducible refine Kd.C_drewN ?_ _) | (with_reducible refine Kd.C_drew ?_))); (case side2 => exact HC0.out); rintro e w' ⟨rfl, ⟨nd, rfl⟩⟩; refine ⟨_, rfl, ?_⟩) | ((with_reducible refine gate_dst (N := 37) rfl ?_); (try (refine gate_guard (by rfl) ?_; dsimp only)); refine Kd.R_lit Kd.string _ 9 ?hg (N := 37) ?hd (xs := ([a1, a2, a3] : List ByteArray)) (inner := [.string a1, .string a2, .string a3]) (ok := fun _ => True) (okp := fun _ => True) ?hr ?hp (fun _ hk => hk) trivial (Below.refl _ _) (Nat.le_refl _) (by simp) ?_; (case hd => rfl); (case hg => rfl); (case hr => first | (go_simp; done) | (go_simp; rfl)); (case hp => exact (Reps.one (show Kd.M Kd.string _ _ _ a1 [.string a1] from rfl) (Reps.one (show Kd.M Kd.string _ _ _ a2 [.string a2] from rfl) (Reps.one (show Kd.M Kd.string _ _ _ a3 [.string a3] from rfl) (Reps.none _ _))))); intro v158 w37 ho38 hb hg_ hnew_; clear hg_ hnew_; (first | rw [← Ny157.out] at ho38 | (simp only [Int.reduceToNat] at ho38; rw [← Ny157.out] at ho38)); have n0_ := Aside0.mk (Kd.R_lower ho38 (below_size (by repeat (first | (with_reducible first | exact HB.out | apply below_alloc | apply pw_below_drewN | apply below_drew1) | exact HB.out)))); have n1_ := Aside0.mk (below_step (by repeat (first | (with_reducible first | exact HB.out | apply below_alloc | apply pw_below_drewN | apply below_drew1) | exact HB.out)) hb); clear HB; have HO159 := n0_; have HB := n1_; clear n0_ n1_; clear hb ho38; obtain ⟨Ao39, co39, eo39⟩ := Kd.R_slice HO159.out; subst eo39) | (go_at_call 14; (with_reducible refine (laws_short.calls kj4 _ _ y157 true _ ?side1 ?side2 A14.out).mono ?_); (case side1 => repeat (first | exact (Kd.R_reads' HO159.out).2.2 | (with_reducible refine Kd.C_alloc ?_ _) | (with_reducible refine Kd.C_drewN ?_ _) | (with_reducible refine Kd.C_drew ?_))); (case side2 => exact (Kd.R_reads' HO159.out).2.1); rintro e w' ⟨rfl, ⟨nd, rfl⟩⟩) | (go_at_call 33; (with_reducible refine (laws_digits.calls kj4 a2 true _ A16.out).mono ?_); rintro e w' ⟨rfl, ⟨nd, rfl⟩⟩) | (go_at_call 34; (with_reducible refine (laws_plain.calls kj4 a3 (⟨#[]⟩ : ByteArray) false _ A18.out).mono ?_); rintro e w' ⟨rfl, ⟨nd, rfl⟩⟩))
                  go_meet
                  case rel => exact ⟨_, (true), (by first | rfl | (simp; done) | (simp [*]; done) | (simp [bne_nil_]; done)), H', ⟨by have := HJ4.out; first | omega | exact Nat.le_refl _⟩, ⟨by repeat (first | (with_reducible first | exact HB.out | apply below_alloc | apply pw_below_drewN | apply below_drew1) | exact HB.out)⟩⟩
              · replace c17 := Bool.eq_false_iff.mpr c17
                subst c17
                have H1 : (laws_FnIdentifiersLonger.j1 kj4 l0 a1 a2 a3 true) = some r := by rw [if_neg (show ¬ (false = true) by decide)] at H; exact H
                clear H
                have H := H1
                clear H1
                have H' := Aside0.mk H
                clear H
                go_wp2_with (first | ((with_reducible refine gate_callee (f := 14) rfl ?_); refine goesL_ (some 31) rfl rfl Tryd.func14 (by kernel_rfl) rfl #[.slice A0 l0.length c0] rfl (by (try simp only [List.map_toArray, List.map_cons, List.map_nil]); first | done | rfl | (simp only [List.length_drop, List.length_take]; rfl)) ?_; (with_reducible refine (laws_short.calls kj4 _ _ l0 true _ ?side1 ?side2 A12.out).mono ?_); (case side1 => repeat (first | exact (Kd.C_below HR0.out HB.out) | (with_reducible refine Kd.C_alloc ?_ _) | (with_reducible refine Kd.C_drewN ?_ _) | (with_reducible refine Kd.C_drew ?_))); (case side2 => exact HC0.out); rintro e w' ⟨rfl, ⟨nd, rfl⟩⟩; refine ⟨_, rfl, ?_⟩) | ((with_reducible refine gate_dst (N := 37) rfl ?_); (try (refine gate_guard (by rfl) ?_; dsimp only)); refine Kd.R_lit Kd.string _ 9 ?hg (N := 37) ?hd (xs := ([a1, a2, a3] : List ByteArray)) (inner := [.string a1, .string a2, .string a3]) (ok := fun _ => True) (okp := fun _ => True) ?hr ?hp (fun _ hk => hk) trivial (Below.refl _ _) (Nat.le_refl _) (by simp) ?_; (case hd => rfl); (case hg => rfl); (case hr => first | (go_simp; done) | (go_simp; rfl)); (case hp => exact (Reps.one (show Kd.M Kd.string _ _ _ a1 [.string a1] from rfl) (Reps.one (show Kd.M Kd.string _ _ _ a2 [.string a2] from rfl) (Reps.one (show Kd.M Kd.string _ _ _ a3 [.string a3] from rfl) (Reps.none _ _))))); intro v158 w40 ho41 hb hg_ hnew_; clear hg_ hnew_; (first | rw [← Ny157.out] at ho41 | (simp only [Int.reduceToNat] at ho41; rw [← Ny157.out] at ho41)); have n0_ := Aside0.mk (Kd.R_lower ho41 (below_size (by repeat (first | (with_reducible first | exact HB.out | apply below_alloc | apply pw_below_drewN | apply below_drew1) | exact HB.out)))); have n1_ := Aside0.mk (below_step (by repeat (first | (with_reducible first | exact HB.out | apply below_alloc | apply pw_below_drewN | apply below_drew1) | exact HB.out)) hb); clear HB; have HO159 := n0_; have HB := n1_; clear n0_ n1_; clear hb ho41; obtain ⟨Ao42, co42, eo42⟩ := Kd.R_slice HO159.out; subst eo42) | (go_at_call 14; (with_reducible refine (laws_short.calls kj4 _ _ y157 true _ ?side1 ?side2 A14.out).mono ?_); (case side1 => repeat (first | exact (Kd.R_reads' HO159.out).2.2 | (with_reducible refine Kd.C_alloc ?_ _) | (with_reducible refine Kd.C_drewN ?_ _) | (with_reducible refine Kd.C_drew ?_))); (case side2 => exact (Kd.R_reads' HO159.out).2.1); rintro e w' ⟨rfl, ⟨nd, rfl⟩⟩) | (go_at_call 33; (with_reducible refine (laws_digits.calls kj4 a2 false _ A16.out).mono ?_); rintro e w' ⟨rfl, ⟨nd, rfl⟩⟩))
                go_meet
                case rel => exact ⟨_, (true), (by first | rfl | (simp; done) | (simp [*]; done) | (simp [bne_nil_]; done)), H', ⟨by have := HJ4.out; first | omega | exact Nat.le_refl _⟩, ⟨by repeat (first | (with_reducible first | exact HB.out | apply below_alloc | apply pw_below_drewN | apply below_drew1) | exact HB.out)⟩⟩
            · replace c15 := Bool.eq_false_iff.mpr c15
              subst c15
              have H1 : (laws_FnIdentifiersLonger.j1 kj4 l0 a1 a2 a3 true) = some r := by rw [if_neg (show ¬ (false = true) by decide)] at H; exact H
              clear H
              have H := H1
              clear H1
              have H' := Aside0.mk H
              clear H
              go_wp2_with (first | ((with_reducible refine gate_callee (f := 14) rfl ?_); refine goesL_ (some 31) rfl rfl Tryd.func14 (by kernel_rfl) rfl #[.slice A0 l0.length c0] rfl (by (try simp only [List.map_toArray, List.map_cons, List.map_nil]); first | done | rfl | (simp only [List.length_drop, List.length_take]; rfl)) ?_; (with_reducible refine (laws_short.calls kj4 _ _ l0 true _ ?side1 ?side2 A12.out).mono ?_); (case side1 => repeat (first | exact (Kd.C_below HR0.out HB.out) | (with_reducible refine Kd.C_alloc ?_ _) | (with_reducible refine Kd.C_drewN ?_ _) | (with_reducible refine Kd.C_drew ?_))); (case side2 => exact HC0.out); rintro e w' ⟨rfl, ⟨nd, rfl⟩⟩; refine ⟨_, rfl, ?_⟩) | ((with_reducible refine gate_dst (N := 37) rfl ?_); (try (refine gate_guard (by rfl) ?_; dsimp only)); refine Kd.R_lit Kd.string _ 9 ?hg (N := 37) ?hd (xs := ([a1, a2, a3] : List ByteArray)) (inner := [.string a1, .string a2, .string a3]) (ok := fun _ => True) (okp := fun _ => True) ?hr ?hp (fun _ hk => hk) trivial (Below.refl _ _) (Nat.le_refl _) (by simp) ?_; (case hd => rfl); (case hg => rfl); (case hr => first | (go_simp; done) | (go_simp; rfl)); (case hp => exact (Reps.one (show Kd.M Kd.string _ _ _ a1 [.string a1] from rfl) (Reps.one (show Kd.M Kd.string _ _ _ a2 [.string a2] from rfl) (Reps.one (show Kd.M Kd.string _ _ _ a3 [.string a3] from rfl) (Reps.none _ _))))); intro v158 w43 ho44 hb hg_ hnew_; clear hg_ hnew_; (first | rw [← Ny157.out] at ho44 | (simp only [Int.reduceToNat] at ho44; rw [← Ny157.out] at ho44)); have n0_ := Aside0.mk (Kd.R_lower ho44 (below_size (by repeat (first | (with_reducible first | exact HB.out | apply below_alloc | apply pw_below_drewN | apply below_drew1) | exact HB.out)))); have n1_ := Aside0.mk (below_step (by repeat (first | (with_reducible first | exact HB.out | apply below_alloc | apply pw_below_drewN | apply below_drew1) | exact HB.out)) hb); clear HB; have HO159 := n0_; have HB := n1_; clear n0_ n1_; clear hb ho44; obtain ⟨Ao45, co45, eo45⟩ := Kd.R_slice HO159.out; subst eo45) | (go_at_call 14; (with_reducible refine (laws_short.calls kj4 _ _ y157 false _ ?side1 ?side2 A14.out).mono ?_); (case side1 => repeat (first | exact (Kd.R_reads' HO159.out).2.2 | (with_reducible refine Kd.C_alloc ?_ _) | (with_reducible refine Kd.C_drewN ?_ _) | (with_reducible refine Kd.C_drew ?_))); (case side2 => exact (Kd.R_reads' HO159.out).2.1); rintro e w' ⟨rfl, ⟨nd, rfl⟩⟩))
              go_meet
              case rel => exact ⟨_, (true), (by first | rfl | (simp; done) | (simp [*]; done) | (simp [bne_nil_]; done)), H', ⟨by have := HJ4.out; first | omega | exact Nat.le_refl _⟩, ⟨by repeat (first | (with_reducible first | exact HB.out | apply below_alloc | apply pw_below_drewN | apply below_drew1) | exact HB.out)⟩⟩
          · replace c13 := Bool.eq_false_iff.mpr c13
            subst c13
            have H1 : (laws_FnIdentifiersLonger.j1 kj4 l0 a1 a2 a3 true) = some r := by rw [if_neg (show ¬ (false = true) by decide)] at H; exact H
            clear H
            have H := H1
            clear H1
            have H' := Aside0.mk H
            clear H
            go_wp2_with (first | ((with_reducible refine gate_callee (f := 14) rfl ?_); refine goesL_ (some 31) rfl rfl Tryd.func14 (by kernel_rfl) rfl #[.slice A0 l0.length c0] rfl (by (try simp only [List.map_toArray, List.map_cons, List.map_nil]); first | done | rfl | (simp only [List.length_drop, List.length_take]; rfl)) ?_; (with_reducible refine (laws_short.calls kj4 _ _ l0 false _ ?side1 ?side2 A12.out).mono ?_); (case side1 => repeat (first | exact (Kd.C_below HR0.out HB.out) | (with_reducible refine Kd.C_alloc ?_ _) | (with_reducible refine Kd.C_drewN ?_ _) | (with_reducible refine Kd.C_drew ?_))); (case side2 => exact HC0.out); rintro e w' ⟨rfl, ⟨nd, rfl⟩⟩; refine ⟨_, rfl, ?_⟩))
            go_meet
            case rel => exact ⟨_, (true), (by first | rfl | (simp; done) | (simp [*]; done) | (simp [bne_nil_]; done)), H', ⟨by have := HJ4.out; first | omega | exact Nat.le_refl _⟩, ⟨by repeat (first | (with_reducible first | exact HB.out | apply below_alloc | apply pw_below_drewN | apply below_drew1) | exact HB.out)⟩⟩
        case rest =>
          clear HC11
          try clear c1
          try clear c2
          try clear p2
          try clear c7
          try clear c8
          try clear c8b0
          try clear c8b1
          try clear c9
          try clear c9b0
          try clear c9b1
          try clear c10
          try clear c13
          try clear c14
          try clear c15
          try clear c16
          try clear c17
          try clear c19
          try clear c21
          try clear c26
          try clear p2
          obtain ⟨kq, x65_10, rfl, HA, HJ10, HB⟩ := hcut
          cases kq with
          | zero => exact absurd HA.out (by simp [laws_FnIdentifiersLonger.j1])
          | succ kj10 =>
            have H := HA.out
            clear HA
            simp only [laws_FnIdentifiersLonger.j1] at H
            by_cases c46 : x65_10 = true
            · subst c46
              have H1 : (some true) = some r := by rw [if_pos rfl] at H; exact H
              clear H
              have H := H1
              clear H1
              obtain rfl := Option.some.inj H
              go_wp2
              go_ret
              exact ⟨by first | rfl | (simp [errW_none, errW_some] <;> rfl) | (simp [*, errW_none, errW_some] <;> rfl) | (simp [bne_nil_]; done), by repeat (first | (with_reducible first | exact HB.out | apply below_alloc | apply pw_below_drewN | apply below_drew1) | exact HB.out)⟩
            · replace c46 := Bool.eq_false_iff.mpr c46
              subst c46
              have H1 : (if ([] : List ByteArray).length + l0.length < 8796093022208 then ((some (([] : List ByteArray) ++ l0 : List ByteArray)).bind fun y169 => (if y169.length < 8796093022208 then ((some (([] : List ByteArray) ++ l0 : List ByteArray)).bind fun y175 => (if y175.length < 8796093022208 then ((some (y175 ++ [a2] : List ByteArray)).bind fun y178 => ((some (([] : List ByteArray) ++ l0 : List ByteArray)).bind fun y181 => (if y181.length < 8796093022208 then ((some (y181 ++ [a3] : List ByteArray)).bind fun y184 => ((impl_Identifiers.f l0 (y169 ++ [a1])).bind fun t187 => (if t187 = (-1) then ((impl_Identifiers.f y178 y184).bind fun t188 => (if t188 = (-1) then ((impl_Identifiers.f y184 y178).bind fun t189 => (some (t189 == 1))) else (some false))) else (some false)))) else (none)))) else (none))) else (none))) else (none)) = some r := by rw [if_neg (show ¬ (false = true) by decide)] at H; exact H
              clear H
              have H := H1
              clear H1
              by_cases c47 : ([] : List ByteArray).length + l0.length < 8796093022208
              · rw [if_pos c47] at H
                have LMc47 := Aside0.mk c47
                clear c47
                obtain ⟨y169, hy169⟩ : ∃ y_ : List ByteArray, y_ = (([] : List ByteArray) ++ l0) := ⟨_, rfl⟩
                replace H : (if y169.length < 8796093022208 then ((some (([] : List ByteArray) ++ l0 : List ByteArray)).bind fun y175 => (if y175.length < 8796093022208 then ((some (y175 ++ [a2] : List ByteArray)).bind fun y178 => ((some (([] : List ByteArray) ++ l0 : List ByteArray)).bind fun y181 => (if y181.length < 8796093022208 then ((some (y181 ++ [a3] : List ByteArray)).bind fun y184 => ((impl_Identifiers.f l0 (y169 ++ [a1])).bind fun t187 => (if t187 = (-1) then ((impl_Identifiers.f y178 y184).bind fun t188 => (if t188 = (-1) then ((impl_Identifiers.f y184 y178).bind fun t189 => (some (t189 == 1))) else (some false))) else (some false)))) else (none)))) else (none))) else (none)) = some r := by first | (rw [hy169]; with_reducible exact H) | (have H2_ := (Option.bind_some _ _).symm.trans H; rw [hy169]; with_reducible exact H2_) | (have H2_ := (Option.bind_some _ _).symm.trans H; with_reducible exact H2_) | with_reducible exact H | (rw [hy169]; exact H) | exact H
                have Ny169 := Aside0.mk hy169
                clear hy169
                by_cases c48 : y169.length < 8796093022208
                · rw [if_pos c48] at H
                  have LMc48 := Aside0.mk c48
                  clear c48
                  obtain ⟨y172, hy172⟩ : ∃ y_ : List ByteArray, y_ = (y169 ++ [a1]) := ⟨_, rfl⟩
                  replace H : ((some (([] : List ByteArray) ++ l0 : List ByteArray)).bind fun y175 => (if y175.length < 8796093022208 then ((some (y175 ++ [a2] : List ByteArray)).bind fun y178 => ((some (([] : List ByteArray) ++ l0 : List ByteArray)).bind fun y181 => (if y181.length < 8796093022208 then ((some (y181 ++ [a3] : List ByteArray)).bind fun y184 => ((impl_Identifiers.f l0 y172).bind fun t187 => (if t187 = (-1) then ((impl_Identifiers.f y178 y184).bind fun t188 => (if t188 = (-1) then ((impl_Identifiers.f y184 y178).bind fun t189 => (some (t189 == 1))) else (some false))) else (some false)))) else (none)))) else (none))) = some r := by first | (rw [hy172]; with_reducible exact H) | (have H2_ := (Option.bind_some _ _).symm.trans H; rw [hy172]; with_reducible exact H2_) | (have H2_ := (Option.bind_some _ _).symm.trans H; with_reducible exact H2_) | with_reducible exact H | (rw [hy172]; exact H) | exact H
                  have Ny172 := Aside0.mk hy172
                  clear hy172
                  obtain ⟨y175, hy175⟩ : ∃ y_ : List ByteArray, y_ = (([] : List ByteArray) ++ l0) := ⟨_, rfl⟩
                  replace H : (if y175.length < 8796093022208 then ((some (y175 ++ [a2] : List ByteArray)).bind fun y178 => ((some (([] : List ByteArray) ++ l0 : List ByteArray)).bind fun y181 => (if y181.length < 8796093022208 then ((some (y181 ++ [a3] : List ByteArray)).bind fun y184 => ((impl_Identifiers.f l0 y172).bind fun t187 => (if t187 = (-1) then ((impl_Identifiers.f y178 y184).bind fun t188 => (if t188 = (-1) then ((impl_Identifiers.f y184 y178).bind fun t189 => (some (t189 == 1))) else (some false))) else (some false)))) else (none)))) else (none)) = some r := by first | (rw [hy175]; with_reducible exact H) | (have H2_ := (Option.bind_some _ _).symm.trans H; rw [hy175]; with_reducible exact H2_) | (have H2_ := (Option.bind_some _ _).symm.trans H; with_reducible exact H2_) | with_reducible exact H | (rw [hy175]; exact H) | exact H
                  have Ny175 := Aside0.mk hy175
                  clear hy175
                  by_cases c49 : y175.length < 8796093022208
                  · rw [if_pos c49] at H
                    have LMc49 := Aside0.mk c49
                    clear c49
                    obtain ⟨y178, hy178⟩ : ∃ y_ : List ByteArray, y_ = (y175 ++ [a2]) := ⟨_, rfl⟩
                    replace H : ((some (([] : List ByteArray) ++ l0 : List ByteArray)).bind fun y181 => (if y181.length < 8796093022208 then ((some (y181 ++ [a3] : List ByteArray)).bind fun y184 => ((impl_Identifiers.f l0 y172).bind fun t187 => (if t187 = (-1) then ((impl_Identifiers.f y178 y184).bind fun t188 => (if t188 = (-1) then ((impl_Identifiers.f y184 y178).bind fun t189 => (some (t189 == 1))) else (some false))) else (some false)))) else (none))) = some r := by first | (rw [hy178]; with_reducible exact H) | (have H2_ := (Option.bind_some _ _).symm.trans H; rw [hy178]; with_reducible exact H2_) | (have H2_ := (Option.bind_some _ _).symm.trans H; with_reducible exact H2_) | with_reducible exact H | (rw [hy178]; exact H) | exact H
                    have Ny178 := Aside0.mk hy178
                    clear hy178
                    obtain ⟨y181, hy181⟩ : ∃ y_ : List ByteArray, y_ = (([] : List ByteArray) ++ l0) := ⟨_, rfl⟩
                    replace H : (if y181.length < 8796093022208 then ((some (y181 ++ [a3] : List ByteArray)).bind fun y184 => ((impl_Identifiers.f l0 y172).bind fun t187 => (if t187 = (-1) then ((impl_Identifiers.f y178 y184).bind fun t188 => (if t188 = (-1) then ((impl_Identifiers.f y184 y178).bind fun t189 => (some (t189 == 1))) else (some false))) else (some false)))) else (none)) = some r := by first | (rw [hy181]; with_reducible exact H) | (have H2_ := (Option.bind_some _ _).symm.trans H; rw [hy181]; with_reducible exact H2_) | (have H2_ := (Option.bind_some _ _).symm.trans H; with_reducible exact H2_) | with_reducible exact H | (rw [hy181]; exact H) | exact H
                    have Ny181 := Aside0.mk hy181
                    clear hy181
                    by_cases c50 : y181.length < 8796093022208
                    · rw [if_pos c50] at H
                      have LMc50 := Aside0.mk c50
                      clear c50
                      obtain ⟨y184, hy184⟩ : ∃ y_ : List ByteArray, y_ = (y181 ++ [a3]) := ⟨_, rfl⟩
                      replace H : ((impl_Identifiers.f l0 y172).bind fun t187 => (if t187 = (-1) then ((impl_Identifiers.f y178 y184).bind fun t188 => (if t188 = (-1) then ((impl_Identifiers.f y184 y178).bind fun t189 => (some (t189 == 1))) else (some false))) else (some false))) = some r := by first | (rw [hy184]; with_reducible exact H) | (have H2_ := (Option.bind_some _ _).symm.trans H; rw [hy184]; with_reducible exact H2_) | (have H2_ := (Option.bind_some _ _).symm.trans H; with_reducible exact H2_) | with_reducible exact H | (rw [hy184]; exact H) | exact H
                      have Ny184 := Aside0.mk hy184
                      clear hy184
                      replace H := Option.bind_eq_some_iff.mp H
                      obtain ⟨t187, A510, H⟩ := H
                      replace H : (if t187 = (-1) then ((impl_Identifiers.f y178 y184).bind fun t188 => (if t188 = (-1) then ((impl_Identifiers.f y184 y178).bind fun t189 => (some (t189 == 1))) else (some false))) else (some false)) = some r := H
                      have A51 := Aside0.mk A510
                      clear A510
                      by_cases c52 : t187 = (-1)
                      · rw [if_pos c52] at H
                        have c52b0 : (t187 == (-1)) = true := beq_iff_eq.mpr c52
                        have c52b1 : (t187 != (-1)) = false := bne_eq_false_iff_eq.mpr c52
                        clear c52
                        replace H := Option.bind_eq_some_iff.mp H
                        obtain ⟨t188, A530, H⟩ := H
                        replace H : (if t188 = (-1) then ((impl_Identifiers.f y184 y178).bind fun t189 => (some (t189 == 1))) else (some false)) = some r := H
                        have A53 := Aside0.mk A530
                        clear A530
                        by_cases c54 : t188 = (-1)
                        · rw [if_pos c54] at H
                          have c54b0 : (t188 == (-1)) = true := beq_iff_eq.mpr c54
                          have c54b1 : (t188 != (-1)) = false := bne_eq_false_iff_eq.mpr c54
                          clear c54
                          replace H := Option.bind_eq_some_iff.mp H
                          obtain ⟨t189, A550, H⟩ := H
                          replace H : (some (t189 == 1)) = some r := H
                          have A55 := Aside0.mk A550
                          clear A550
                          obtain rfl := Option.some.inj H
                          go_wp2_with (first | ((with_reducible refine gate_builtin (b := .append) (xs := #[.const (.slice none 0 0), .tmp 66]) rfl ?_); (try (refine gate_guard (by rfl) ?_; dsimp only)); at_builtin; refine Kd.R_append_rows Kd.string (w0 := w) w.heap.size rfl (.const (.slice none 0 0)) (.tmp 66) 28 9 (.string ⟨#[]⟩) 16 rfl Tryd.underlying28 info9 rfl (by decide) (by omega) (.slice none 0 0) ([] : List ByteArray) l0 _ _ _ (fun _ => True) (fun _ => False) rfl rfl ?aO ?aR (fun _ _ h => h) (fun _ h => h.elim) ?aF ?aB ?aS ?aL ?_; (case aR => repeat (first | exact (Kd.C_below HR0.out HB.out) | (with_reducible refine Kd.C_alloc ?_ _) | (with_reducible refine Kd.C_drewN ?_ _) | (with_reducible refine Kd.C_drew ?_))); (case aB => exact (by repeat (first | (with_reducible first | exact HB.out | apply below_alloc | apply pw_below_drewN | apply below_drew1) | exact HB.out))); (case aF => exact (fun _ _ => trivial)); (case aO => exact ((Kd.R_nil _ _ _ _ (fun _ => True)))); (case aS => exact (below_size (by repeat (first | (with_reducible first | exact HB.out | apply below_alloc | apply pw_below_drewN | apply below_drew1) | exact HB.out)))); (case aL => have := LMc47.out; omega); intro v170 w56 ho hb hg hat; rw [← Ny169.out] at ho; have n0_ := Aside0.mk (hb); have n1_ := Aside0.mk (ho); clear HB; have HB := n0_; have HO171 := n1_; clear n0_ n1_; clear ho hb hg hat) | ((with_reducible refine gate_builtin (b := .append) (xs := #[.tmp 67, .tmp 69]) rfl ?_); (try (refine gate_guard (by rfl) ?_; dsimp only)); at_builtin; refine Kd.R_append Kd.string (w0 := w) w.heap.size rfl (.tmp 67) (.tmp 69) 28 9 (.string ⟨#[]⟩) 16 rfl Tryd.underlying28 info9 rfl (by decide) (by omega) v170 y169 a1 [.string a1] (fun _ => True) (fun _ => False) rfl rfl ?aP (fun _ hk => hk.elim) ?aF ?aO ?aB ?aS ?aL ?_; (case aP => exact rfl); (case aB => exact (by repeat (first | (with_reducible first | exact HB.out | apply below_alloc | apply pw_below_drewN | apply below_drew1) | exact HB.out))); (case aF => exact (fun _ _ => trivial)); (case aO => exact (by (with_reducible repeat (first | apply Kd.R_alloc | apply Kd.R_drewN | apply Kd.R_drew)); exact HO171.out)); (case aS => exact (below_size (by repeat (first | (with_reducible first | exact HB.out | apply below_alloc | apply pw_below_drewN | apply below_drew1) | exact HB.out)))); (case aL => have := LMc48.out; omega); intro v173 w57 ho hb hg hat; rw [← Ny172.out] at ho; have n0_ := Aside0.mk (hb); have n1_ := Aside0.mk (ho); clear HB; clear HO171; have HB := n0_; have HO174 := n1_; clear n0_ n1_; clear ho hb hg hat) | ((with_reducible refine gate_builtin (b := .append) (xs := #[.const (.slice none 0 0), .tmp 71]) rfl ?_); (try (refine gate_guard (by rfl) ?_; dsimp only)); at_builtin; refine Kd.R_append_rows Kd.string (w0 := w) w.heap.size rfl (.const (.slice none 0 0)) (.tmp 71) 28 9 (.string ⟨#[]⟩) 16 rfl Tryd.underlying28 info9 rfl (by decide) (by omega) (.slice none 0 0) ([] : List ByteArray) l0 _ _ _ (fun k_ => some k_ ≠ (v173 : Value).ownBlock) (fun _ => False) rfl rfl ?aO ?aR (fun _ _ h => h) (fun _ h => h.elim) ?aF ?aB ?aS ?aL ?_; (case aR => repeat (first | exact (Kd.C_below HR0.out HB.out) | (with_reducible refine Kd.C_alloc ?_ _) | (with_reducible refine Kd.C_drewN ?_ _) | (with_reducible refine Kd.C_drew ?_))); (case aB => exact (by repeat (first | (with_reducible first | exact HB.out | apply below_alloc | apply pw_below_drewN | apply below_drew1) | exact HB.out))); (case aF => exact (fun k_ hk => Kd.fresh' (Kd.R_lt (by (with_reducible repeat (first | apply Kd.R_alloc | apply Kd.R_drewN | apply Kd.R_drew)); exact HO174.out)) k_ hk)); (case aO => exact ((Kd.R_nil _ _ _ _ (fun k_ => some k_ ≠ (v173 : Value).ownBlock)))); (case aS => exact (below_size (by repeat (first | (with_reducible first | exact HB.out | apply below_alloc | apply pw_below_drewN | apply below_drew1) | exact HB.out)))); (case aL => have := LMc47.out; omega); intro v176 w58 ho hb hg hat; rw [← Ny175.out] at ho; have n0_ := Aside0.mk (Kd.R_after (Kd.R_apart_nil (by (with_reducible repeat (first | apply Kd.R_alloc | apply Kd.R_drewN | apply Kd.R_drew)); exact HO174.out)) hg hat); have n1_ := Aside0.mk (hb); have n2_ := Aside0.mk (ho); clear HO174; clear HB; have HO174 := n0_; have HB := n1_; have HO177 := n2_; clear n0_ n1_ n2_; clear ho hb hg hat) | ((with_reducible refine gate_builtin (b := .append) (xs := #[.tmp 72, .tmp 74]) rfl ?_); (try (refine gate_guard (by rfl) ?_; dsimp only)); at_builtin; refine Kd.R_append Kd.string (w0 := w) w.heap.size rfl (.tmp 72) (.tmp 74) 28 9 (.string ⟨#[]⟩) 16 rfl Tryd.underlying28 info9 rfl (by decide) (by omega) v176 y175 a2 [.string a2] (fun k_ => some k_ ≠ (v173 : Value).ownBlock) (fun _ => False) rfl rfl ?aP (fun _ hk => hk.elim) ?aF ?aO ?aB ?aS ?aL ?_; (case aP => exact rfl); (case aB => exact (by repeat (first | (with_reducible first | exact HB.out | apply below_alloc | apply pw_below_drewN | apply below_drew1) | exact HB.out))); (case aF => exact (fun k_ hk => Kd.fresh' (Kd.R_lt (by (with_reducible repeat (first | apply Kd.R_alloc | apply Kd.R_drewN | apply Kd.R_drew)); exact HO174.out)) k_ hk)); (case aO => exact (by (with_reducible repeat (first | apply Kd.R_alloc | apply Kd.R_drewN | apply Kd.R_drew)); exact HO177.out)); (case aS => exact (below_size (by repeat (first | (with_reducible first | exact HB.out | apply below_alloc | apply pw_below_drewN | apply below_drew1) | exact HB.out)))); (case aL => have := LMc49.out; omega); intro v179 w59 ho hb hg hat; rw [← Ny178.out] at ho; have n0_ := Aside0.mk (Kd.R_after (ok := (fun _ => True)) (by (with_reducible repeat (first | apply Kd.R_alloc | apply Kd.R_drewN | apply Kd.R_drew)); exact HO174.out) hg hat); have n1_ := Aside0.mk (hb); have n2_ := Aside0.mk (ho); clear HO174; clear HB; clear HO177; have HO174 := n0_; have HB := n1_; have HO180 := n2_; clear n0_ n1_ n2_; clear ho hb hg hat) | ((with_reducible refine gate_builtin (b := .append) (xs := #[.const (.slice none 0 0), .tmp 76]) rfl ?_); (try (refine gate_guard (by rfl) ?_; dsimp only)); at_builtin; refine Kd.R_append_rows Kd.string (w0 := w) w.heap.size rfl (.const (.slice none 0 0)) (.tmp 76) 28 9 (.string ⟨#[]⟩) 16 rfl Tryd.underlying28 info9 rfl (by decide) (by omega) (.slice none 0 0) ([] : List ByteArray) l0 _ _ _ (fun k_ => some k_ ≠ (v173 : Value).ownBlock ∧ some k_ ≠ (v179 : Value).ownBlock) (fun _ => False) rfl rfl ?aO ?aR (fun _ _ h => h) (fun _ h => h.elim) ?aF ?aB ?aS ?aL ?_; (case aR => repeat (first | exact (Kd.C_below HR0.out HB.out) | (with_reducible refine Kd.C_alloc ?_ _) | (with_reducible refine Kd.C_drewN ?_ _) | (with_reducible refine Kd.C_drew ?_))); (case aB => exact (by repeat (first | (with_reducible first | exact HB.out | apply below_alloc | apply pw_below_drewN | apply below_drew1) | exact HB.out))); (case aF => exact (fun k_ hk => ⟨Kd.fresh' (Kd.R_lt (by (with_reducible repeat (first | apply Kd.R_alloc | apply Kd.R_drewN | apply Kd.R_drew)); exact HO174.out)) k_ hk, Kd.fresh' (Kd.R_lt (by (with_reducible repeat (first | apply Kd.R_alloc | apply Kd.R_drewN | apply Kd.R_drew)); exact HO180.out)) k_ hk⟩)); (case aO => exact ((Kd.R_nil _ _ _ _ (fun k_ => some k_ ≠ (v173 : Value).ownBlock ∧ some k_ ≠ (v179 : Value).ownBlock)))); (case aS => exact (below_size (by repeat (first | (with_reducible first | exact HB.out | apply below_alloc | apply pw_below_drewN | apply below_drew1) | exact HB.out)))); (case aL => have := LMc47.out; omega); intro v182 w60 ho hb hg hat; rw [← Ny181.out] at ho; have n0_ := Aside0.mk (Kd.R_after (Kd.R_apart_nil (by (with_reducible repeat (first | apply Kd.R_alloc | apply Kd.R_drewN | apply Kd.R_drew)); exact HO174.out)) hg hat); have n1_ := Aside0.mk (Kd.R_after (Kd.R_apart_nil (by (with_reducible repeat (first | apply Kd.R_alloc | apply Kd.R_drewN | apply Kd.R_drew)); exact HO180.out)) hg hat); have n2_ := Aside0.mk (hb); have n3_ := Aside0.mk (ho); clear HO174; clear HO180; clear HB; have HO174 := n0_; have HO180 := n1_; have HB := n2_; have HO183 := n3_; clear n0_ n1_ n2_ n3_; clear ho hb hg hat) | ((with_reducible refine gate_builtin (b := .append) (xs := #[.tmp 77, .tmp 79]) rfl ?_); (try (refine gate_guard (by rfl) ?_; dsimp only)); at_builtin; refine Kd.R_append Kd.string (w0 := w) w.heap.size rfl (.tmp 77) (.tmp 79) 28 9 (.string ⟨#[]⟩) 16 rfl Tryd.underlying28 info9 rfl (by decide) (by omega) v182 y181 a3 [.string a3] (fun k_ => some k_ ≠ (v173 : Value).ownBlock ∧ some k_ ≠ (v179 : Value).ownBlock) (fun _ => False) rfl rfl ?aP (fun _ hk => hk.elim) ?aF ?aO ?aB ?aS ?aL ?_; (case aP => exact rfl); (case aB => exact (by repeat (first | (with_reducible first | exact HB.out | apply below_alloc | apply pw_below_drewN | apply below_drew1) | exact HB.out))); (case aF => exact (fun k_ hk => ⟨Kd.fresh' (Kd.R_lt (by (with_reducible repeat (first | apply Kd.R_alloc | apply Kd.R_drewN | apply Kd.R_drew)); exact HO174.out)) k_ hk, Kd.fresh' (Kd.R_lt (by (with_reducible repeat (first | apply Kd.R_alloc | apply Kd.R_drewN | apply Kd.R_drew)); exact HO180.out)) k_ hk⟩)); (case aO => exact (by (with_reducible repeat (first | apply Kd.R_alloc | apply Kd.R_drewN | apply Kd.R_drew)); exact HO183.out)); (case aS => exact (below_size (by repeat (first | (with_reducible first | exact HB.out | apply below_alloc | apply pw_below_drewN | apply below_drew1) | exact HB.out)))); (case aL => have := LMc50.out; omega); intro v185 w61 ho hb hg hat; rw [← Ny184.out] at ho; have n0_ := Aside0.mk (Kd.R_after (ok := (fun k_ => some k_ ≠ (v179 : Value).ownBlock)) (by (with_reducible repeat (first | apply Kd.R_alloc | apply Kd.R_drewN | apply Kd.R_drew)); exact Kd.R_mono HO174.out (fun _ hk => ⟨hk.1.2, hk.2⟩)) hg hat); have n1_ := Aside0.mk (Kd.R_after (ok := (fun k_ => some k_ ≠ (v173 : Value).ownBlock)) (by (with_reducible repeat (first | apply Kd.R_alloc | apply Kd.R_drewN | apply Kd.R_drew)); exact HO180.out) hg hat); have n2_ := Aside0.mk (hb); have n3_ := Aside0.mk (ho); clear HO174; clear HO180; clear HB; clear HO183; have HO174 := n0_; have HO180 := n1_; have HB := n2_; have HO186 := n3_; clear n0_ n1_ n2_ n3_; clear ho hb hg hat; obtain ⟨Ao62, co62, eo62⟩ := Kd.R_slice HO174.out; subst eo62) | ((with_reducible refine gate_callee (f := 36) rfl ?_); refine goesL_ (some 83) rfl rfl Tryd.func36 (by kernel_rfl) rfl #[.slice A0 l0.length c0, .slice Ao62 y172.length co62] rfl (by (try simp only [List.map_toArray, List.map_cons, List.map_nil]); first | done | rfl | (simp only [List.length_drop, List.length_take]; rfl)) ?_; (with_reducible refine (impl_Identifiers.calls _ _ l0 _ _ y172 t187 _ ?side1 ?side2 ?side3 ?side4 A51.out (HLd.out.below (by repeat (first | (with_reducible first | exact HB.out | apply below_alloc | apply pw_below_drewN | apply below_drew1) | exact HB.out)))).mono ?_); (case side1 => repeat (first | exact (Kd.C_below HR0.out HB.out) | (with_reducible refine Kd.C_alloc ?_ _) | (with_reducible refine Kd.C_drewN ?_ _) | (with_reducible refine Kd.C_drew ?_))); (case side2 => exact HC0.out); (case side3 => repeat (first | exact (Kd.R_reads' HO174.out).2.2 | (with_reducible refine Kd.C_alloc ?_ _) | (with_reducible refine Kd.C_drewN ?_ _) | (with_reducible refine Kd.C_drew ?_))); (case side4 => exact (Kd.R_reads' HO174.out).2.1); rintro e w63 ⟨rfl, hb⟩; refine ⟨_, rfl, ?_⟩; have n0_ := Aside0.mk (Kd.R_below (by (with_reducible repeat (first | apply Kd.R_alloc | apply Kd.R_drewN | apply Kd.R_drew)); exact HO174.out) hb); have n1_ := Aside0.mk (Kd.R_below (by (with_reducible repeat (first | apply Kd.R_alloc | apply Kd.R_drewN | apply Kd.R_drew)); exact HO180.out) hb); have n2_ := Aside0.mk (Kd.R_below (by (with_reducible repeat (first | apply Kd.R_alloc | apply Kd.R_drewN | apply Kd.R_drew)); exact HO186.out) hb); have n3_ := Aside0.mk (below_step (by repeat (first | (with_reducible first | exact HB.out | apply below_alloc | apply pw_below_drewN | apply below_drew1) | exact HB.out)) hb); clear HO174; clear HO180; clear HO186; clear HB; have HO174 := n0_; have HO180 := n1_; have HO186 := n2_; have HB := n3_; clear n0_ n1_ n2_ n3_; (try clear hb); (try clear hb2); (try clear hk); (try clear hi); obtain ⟨Ao64, co64, eo64⟩ := Kd.R_slice HO180.out; subst eo64; obtain ⟨Ao65, co65, eo65⟩ := Kd.R_slice HO186.out; subst eo65) | (go_at_call 36; (with_reducible refine (impl_Identifiers.calls _ _ y178 _ _ y184 t188 _ ?side1 ?side2 ?side3 ?side4 A53.out (HLd.out.below (by repeat (first | (with_reducible first | exact HB.out | apply below_alloc | apply pw_below_drewN | apply below_drew1) | exact HB.out)))).mono ?_); (case side1 => repeat (first | exact (Kd.R_reads' HO180.out).2.2 | (with_reducible refine Kd.C_alloc ?_ _) | (with_reducible refine Kd.C_drewN ?_ _) | (with_reducible refine Kd.C_drew ?_))); (case side2 => exact (Kd.R_reads' HO180.out).2.1); (case side3 => repeat (first | exact (Kd.R_reads' HO186.out).2.2 | (with_reducible refine Kd.C_alloc ?_ _) | (with_reducible refine Kd.C_drewN ?_ _) | (with_reducible refine Kd.C_drew ?_))); (case side4 => exact (Kd.R_reads' HO186.out).2.1); rintro e w66 ⟨rfl, hb⟩; have n0_ := Aside0.mk (Kd.R_below (by (with_reducible repeat (first | apply Kd.R_alloc | apply Kd.R_drewN | apply Kd.R_drew)); exact HO174.out) hb); have n1_ := Aside0.mk (Kd.R_below (by (with_reducible repeat (first | apply Kd.R_alloc | apply Kd.R_drewN | apply Kd.R_drew)); exact HO180.out) hb); have n2_ := Aside0.mk (Kd.R_below (by (with_reducible repeat (first | apply Kd.R_alloc | apply Kd.R_drewN | apply Kd.R_drew)); exact HO186.out) hb); have n3_ := Aside0.mk (below_step (by repeat (first | (with_reducible first | exact HB.out | apply below_alloc | apply pw_below_drewN | apply below_drew1) | exact HB.out)) hb); clear HO174; clear HO180; clear HO186; clear HB; have HO174 := n0_; have HO180 := n1_; have HO186 := n2_; have HB := n3_; clear n0_ n1_ n2_ n3_; (try clear hb); (try clear hb2); (try clear hk); (try clear hi)) | (go_at_call 36; (with_reducible refine (impl_Identifiers.calls _ _ y184 _ _ y178 t189 _ ?side1 ?side2 ?side3 ?side4 A55.out (HLd.out.below (by repeat (first | (with_reducible first | exact HB.out | apply below_alloc | apply pw_below_drewN | apply below_drew1) | exact HB.out)))).mono ?_); (case side1 => repeat (first | exact (Kd.R_reads' HO186.out).2.2 | (with_reducible refine Kd.C_alloc ?_ _) | (with_reducible refine Kd.C_drewN ?_ _) | (with_reducible refine Kd.C_drew ?_))); (case side2 => exact (Kd.R_reads' HO186.out).2.1); (case side3 => repeat (first | exact (Kd.R_reads' HO180.out).2.2 | (with_reducible refine Kd.C_alloc ?_ _) | (with_reducible refine Kd.C_drewN ?_ _) | (with_reducible refine Kd.C_drew ?_))); (case side4 => exact (Kd.R_reads' HO180.out).2.1); rintro e w67 ⟨rfl, hb⟩; have n0_ := Aside0.mk (Kd.R_below (by (with_reducible repeat (first | apply Kd.R_alloc | apply Kd.R_drewN | apply Kd.R_drew)); exact HO174.out) hb); have n1_ := Aside0.mk (Kd.R_below (by (with_reducible repeat (first | apply Kd.R_alloc | apply Kd.R_drewN | apply Kd.R_drew)); exact HO180.out) hb); have n2_ := Aside0.mk (Kd.R_below (by (with_reducible repeat (first | apply Kd.R_alloc | apply Kd.R_drewN | apply Kd.R_drew)); exact HO186.out) hb); have n3_ := Aside0.mk (below_step (by repeat (first | (with_reducible first | exact HB.out | apply below_alloc | apply pw_below_drewN | apply below_drew1) | exact HB.out)) hb); clear HO174; clear HO180; clear HO186; clear HB; have HO174 := n0_; have HO180 := n1_; have HO186 := n2_; have HB := n3_; clear n0_ n1_ n2_ n3_; (try clear hb); (try clear hb2); (try clear hk); (try clear hi)))
                          go_ret
                          exact ⟨by first | rfl | (simp [errW_none, errW_some] <;> rfl) | (simp [*, errW_none, errW_some] <;> rfl) | (simp [bne_nil_]; done), by repeat (first | (with_reducible first | exact HB.out | apply below_alloc | apply pw_below_drewN | apply below_drew1) | exact HB.out)⟩
                        · rw [if_neg c54] at H
                          have c54b0 : (t188 == (-1)) = false := beq_eq_false_iff_ne.mpr c54
                          have c54b1 : (t188 != (-1)) = true := bne_iff_ne.mpr c54
                          obtain rfl := Option.some.inj H
                          go_wp2_with (first | ((with_reducible refine gate_builtin (b := .append) (xs := #[.const (.slice none 0 0), .tmp 66]) rfl ?_); (try (refine gate_guard (by rfl) ?_; dsimp only)); at_builtin; refine Kd.R_append_rows Kd.string (w0 := w) w.heap.size rfl (.const (.slice none 0 0)) (.tmp 66) 28 9 (.string ⟨#[]⟩) 16 rfl Tryd.underlying28 info9 rfl (by decide) (by omega) (.slice none 0 0) ([] : List ByteArray) l0 _ _ _ (fun _ => True) (fun _ => False) rfl rfl ?aO ?aR (fun _ _ h => h) (fun _ h => h.elim) ?aF ?aB ?aS ?aL ?_; (case aR => repeat (first | exact (Kd.C_below HR0.out HB.out) | (with_reducible refine Kd.C_alloc ?_ _) | (with_reducible refine Kd.C_drewN ?_ _) | (with_reducible refine Kd.C_drew ?_))); (case aB => exact (by repeat (first | (with_reducible first | exact HB.out | apply below_alloc | apply pw_below_drewN | apply below_drew1) | exact HB.out))); (case aF => exact (fun _ _ => trivial)); (case aO => exact ((Kd.R_nil _ _ _ _ (fun _ => True)))); (case aS => exact (below_size (by repeat (first | (with_reducible first | exact HB.out | apply below_alloc | apply pw_below_drewN | apply below_drew1) | exact HB.out)))); (case aL => have := LMc47.out; omega); intro v170 w68 ho hb hg hat; rw [← Ny169.out] at ho; have n0_ := Aside0.mk (hb); have n1_ := Aside0.mk (ho); clear HB; have HB := n0_; have HO171 := n1_; clear n0_ n1_; clear ho hb hg hat) | ((with_reducible refine gate_builtin (b := .append) (xs := #[.tmp 67, .tmp 69]) rfl ?_); (try (refine gate_guard (by rfl) ?_; dsimp only)); at_builtin; refine Kd.R_append Kd.string (w0 := w) w.heap.size rfl (.tmp 67) (.tmp 69) 28 9 (.string ⟨#[]⟩) 16 rfl Tryd.underlying28 info9 rfl (by decide) (by omega) v170 y169 a1 [.string a1] (fun _ => True) (fun _ => False) rfl rfl ?aP (fun _ hk => hk.elim) ?aF ?aO ?aB ?aS ?aL ?_; (case aP => exact rfl); (case aB => exact (by repeat (first | (with_reducible first | exact HB.out | apply below_alloc | apply pw_below_drewN | apply below_drew1) | exact HB.out))); (case aF => exact (fun _ _ => trivial)); (case aO => exact (by (with_reducible repeat (first | apply Kd.R_alloc | apply Kd.R_drewN | apply Kd.R_drew)); exact HO171.out)); (case aS => exact (below_size (by repeat (first | (with_reducible first | exact HB.out | apply below_alloc | apply pw_below_drewN | apply below_drew1) | exact HB.out)))); (case aL => have := LMc48.out; omega); intro v173 w69 ho hb hg hat; rw [← Ny172.out] at ho; have n0_ := Aside0.mk (hb); have n1_ := Aside0.mk (ho); clear HB; clear HO171; have HB := n0_; have HO174 := n1_; clear n0_ n1_; clear ho hb hg hat) | ((with_reducible refine gate_builtin (b := .append) (xs := #[.const (.slice none 0 0), .tmp 71]) rfl ?_); (try (refine gate_guard (by rfl) ?_; dsimp only)); at_builtin; refine Kd.R_append_rows Kd.string (w0 := w) w.heap.size rfl (.const (.slice none 0 0)) (.tmp 71) 28 9 (.string ⟨#[]⟩) 16 rfl Tryd.underlying28 info9 rfl (by decide) (by omega) (.slice none 0 0) ([] : List ByteArray) l0 _ _ _ (fun k_ => some k_ ≠ (v173 : Value).ownBlock) (fun _ => False) rfl rfl ?aO ?aR (fun _ _ h => h) (fun _ h => h.elim) ?aF ?aB ?aS ?aL ?_; (case aR => repeat (first | exact (Kd.C_below HR0.out HB.out) | (with_reducible refine Kd.C_alloc ?_ _) | (with_reducible refine Kd.C_drewN ?_ _) | (with_reducible refine Kd.C_drew ?_))); (case aB => exact (by repeat (first | (with_reducible first | exact HB.out | apply below_alloc | apply pw_below_drewN | apply below_drew1) | exact HB.out))); (case aF => exact (fun k_ hk => Kd.fresh' (Kd.R_lt (by (with_reducible repeat (first | apply Kd.R_alloc | apply Kd.R_drewN | apply Kd.R_drew)); exact HO174.out)) k_ hk)); (case aO => exact ((Kd.R_nil _ _ _ _ (fun k_ => some k_ ≠ (v173 : Value).ownBlock)))); (case aS => exact (below_size (by repeat (first | (with_reducible first | exact HB.out | apply below_alloc | apply pw_below_drewN | apply below_drew1) | exact HB.out)))); (case aL => have := LMc47.out; omega); intro v176 w70 ho hb hg hat; rw [← Ny175.out] at ho; have n0_ := Aside0.mk (Kd.R_after (Kd.R_apart_nil (by (with_reducible repeat (first | apply Kd.R_alloc | apply Kd.R_drewN | apply Kd.R_drew)); exact HO174.out)) hg hat); have n1_ := Aside0.mk (hb); have n2_ := Aside0.mk (ho); clear HO174; clear HB; have HO174 := n0_; have HB := n1_; have HO177 := n2_; clear n0_ n1_ n2_; clear ho hb hg hat) | ((with_reducible refine gate_builtin (b := .append) (xs := #[.tmp 72, .tmp 74]) rfl ?_); (try (refine gate_guard (by rfl) ?_; dsimp only)); at_builtin; refine Kd.R_append Kd.string (w0 := w) w.heap.size rfl (.tmp 72) (.tmp 74) 28 9 (.string ⟨#[]⟩) 16 rfl Tryd.underlying28 info9 rfl (by decide) (by omega) v176 y175 a2 [.string a2] (fun k_ => some k_ ≠ (v173 : Value).ownBlock) (fun _ => False) rfl rfl ?aP (fun _ hk => hk.elim) ?aF ?aO ?aB ?aS ?aL ?_; (case aP => exact rfl); (case aB => exact (by repeat (first | (with_reducible first | exact HB.out | apply below_alloc | apply pw_below_drewN | apply below_drew1) | exact HB.out))); (case aF => exact (fun k_ hk => Kd.fresh' (Kd.R_lt (by (with_reducible repeat (first | apply Kd.R_alloc | apply Kd.R_drewN | apply Kd.R_drew)); exact HO174.out)) k_ hk)); (case aO => exact (by (with_reducible repeat (first | apply Kd.R_alloc | apply Kd.R_drewN | apply Kd.R_drew)); exact HO177.out)); (case aS => exact (below_size (by repeat (first | (with_reducible first | exact HB.out | apply below_alloc | apply pw_below_drewN | apply below_drew1) | exact HB.out)))); (case aL => have := LMc49.out; omega); intro v179 w71 ho hb hg hat; rw [← Ny178.out] at ho; have n0_ := Aside0.mk (Kd.R_after (ok := (fun _ => True)) (by (with_reducible repeat (first | apply Kd.R_alloc | apply Kd.R_drewN | apply Kd.R_drew)); exact HO174.out) hg hat); have n1_ := Aside0.mk (hb); have n2_ := Aside0.mk (ho); clear HO174; clear HB; clear HO177; have HO174 := n0_; have HB := n1_; have HO180 := n2_; clear n0_ n1_ n2_; clear ho hb hg hat) | ((with_reducible refine gate_builtin (b := .append) (xs := #[.const (.slice none 0 0), .tmp 76]) rfl ?_); (try (refine gate_guard (by rfl) ?_; dsimp only)); at_builtin; refine Kd.R_append_rows Kd.string (w0 := w) w.heap.size rfl (.const (.slice none 0 0)) (.tmp 76) 28 9 (.string ⟨#[]⟩) 16 rfl Tryd.underlying28 info9 rfl (by decide) (by omega) (.slice none 0 0) ([] : List ByteArray) l0 _ _ _ (fun k_ => some k_ ≠ (v173 : Value).ownBlock ∧ some k_ ≠ (v179 : Value).ownBlock) (fun _ => False) rfl rfl ?aO ?aR (fun _ _ h => h) (fun _ h => h.elim) ?aF ?aB ?aS ?aL ?_; (case aR => repeat (first | exact (Kd.C_below HR0.out HB.out) | (with_reducible refine Kd.C_alloc ?_ _) | (with_reducible refine Kd.C_drewN ?_ _) | (with_reducible refine Kd.C_drew ?_))); (case aB => exact (by repeat (first | (with_reducible first | exact HB.out | apply below_alloc | apply pw_below_drewN | apply below_drew1) | exact HB.out))); (case aF => exact (fun k_ hk => ⟨Kd.fresh' (Kd.R_lt (by (with_reducible repeat (first | apply Kd.R_alloc | apply Kd.R_drewN | apply Kd.R_drew)); exact HO174.out)) k_ hk, Kd.fresh' (Kd.R_lt (by (with_reducible repeat (first | apply Kd.R_alloc | apply Kd.R_drewN | apply Kd.R_drew)); exact HO180.out)) k_ hk⟩)); (case aO => exact ((Kd.R_nil _ _ _ _ (fun k_ => some k_ ≠ (v173 : Value).ownBlock ∧ some k_ ≠ (v179 : Value).ownBlock)))); (case aS => exact (below_size (by repeat (first | (with_reducible first | exact HB.out | apply below_alloc | apply pw_below_drewN | apply below_drew1) | exact HB.out)))); (case aL => have := LMc47.out; omega); intro v182 w72 ho hb hg hat; rw [← Ny181.out] at ho; have n0_ := Aside0.mk (Kd.R_after (Kd.R_apart_nil (by (with_reducible repeat (first | apply Kd.R_alloc | apply Kd.R_drewN | apply Kd.R_drew)); exact HO174.out)) hg hat); have n1_ := Aside0.mk (Kd.R_after (Kd.R_apart_nil (by (with_reducible repeat (first | apply Kd.R_alloc | apply Kd.R_drewN | apply Kd.R_drew)); exact HO180.out)) hg hat); have n2_ := Aside0.mk (hb); have n3_ := Aside0.mk (ho); clear HO174; clear HO180; clear HB; have HO174 := n0_; have HO180 := n1_; have HB := n2_; have HO183 := n3_; clear n0_ n1_ n2_ n3_; clear ho hb hg hat) | ((with_reducible refine gate_builtin (b := .append) (xs := #[.tmp 77, .tmp 79]) rfl ?_); (try (refine gate_guard (by rfl) ?_; dsimp only)); at_builtin; refine Kd.R_append Kd.string (w0 := w) w.heap.size rfl (.tmp 77) (.tmp 79) 28 9 (.string ⟨#[]⟩) 16 rfl Tryd.underlying28 info9 rfl (by decide) (by omega) v182 y181 a3 [.string a3] (fun k_ => some k_ ≠ (v173 : Value).ownBlock ∧ some k_ ≠ (v179 : Value).ownBlock) (fun _ => False) rfl rfl ?aP (fun _ hk => hk.elim) ?aF ?aO ?aB ?aS ?aL ?_; (case aP => exact rfl); (case aB => exact (by repeat (first | (with_reducible first | exact HB.out | apply below_alloc | apply pw_below_drewN | apply below_drew1) | exact HB.out))); (case aF => exact (fun k_ hk => ⟨Kd.fresh' (Kd.R_lt (by (with_reducible repeat (first | apply Kd.R_alloc | apply Kd.R_drewN | apply Kd.R_drew)); exact HO174.out)) k_ hk, Kd.fresh' (Kd.R_lt (by (with_reducible repeat (first | apply Kd.R_alloc | apply Kd.R_drewN | apply Kd.R_drew)); exact HO180.out)) k_ hk⟩)); (case aO => exact (by (with_reducible repeat (first | apply Kd.R_alloc | apply Kd.R_drewN | apply Kd.R_drew)); exact HO183.out)); (case aS => exact (below_size (by repeat (first | (with_reducible first | exact HB.out | apply below_alloc | apply pw_below_drewN | apply below_drew1) | exact HB.out)))); (case aL => have := LMc50.out; omega); intro v185 w73 ho hb hg hat; rw [← Ny184.out] at ho; have n0_ := Aside0.mk (Kd.R_after (ok := (fun k_ => some k_ ≠ (v179 : Value).ownBlock)) (by (with_reducible repeat (first | apply Kd.R_alloc | apply Kd.R_drewN | apply Kd.R_drew)); exact Kd.R_mono HO174.out (fun _ hk => ⟨hk.1.2, hk.2⟩)) hg hat); have n1_ := Aside0.mk (Kd.R_after (ok := (fun k_ => some k_ ≠ (v173 : Value).ownBlock)) (by (with_reducible repeat (first | apply Kd.R_alloc | apply Kd.R_drewN | apply Kd.R_drew)); exact HO180.out) hg hat); have n2_ := Aside0.mk (hb); have n3_ := Aside0.mk (ho); clear HO174; clear HO180; clear HB; clear HO183; have HO174 := n0_; have HO180 := n1_; have HB := n2_; have HO186 := n3_; clear n0_ n1_ n2_ n3_; clear ho hb hg hat; obtain ⟨Ao74, co74, eo74⟩ := Kd.R_slice HO174.out; subst eo74) | ((with_reducible refine gate_callee (f := 36) rfl ?_); refine goesL_ (some 83) rfl rfl Tryd.func36 (by kernel_rfl) rfl #[.slice A0 l0.length c0, .slice Ao74 y172.length co74] rfl (by (try simp only [List.map_toArray, List.map_cons, List.map_nil]); first | done | rfl | (simp only [List.length_drop, List.length_take]; rfl)) ?_; (with_reducible refine (impl_Identifiers.calls _ _ l0 _ _ y172 t187 _ ?side1 ?side2 ?side3 ?side4 A51.out (HLd.out.below (by repeat (first | (with_reducible first | exact HB.out | apply below_alloc | apply pw_below_drewN | apply below_drew1) | exact HB.out)))).mono ?_); (case side1 => repeat (first | exact (Kd.C_below HR0.out HB.out) | (with_reducible refine Kd.C_alloc ?_ _) | (with_reducible refine Kd.C_drewN ?_ _) | (with_reducible refine Kd.C_drew ?_))); (case side2 => exact HC0.out); (case side3 => repeat (first | exact (Kd.R_reads' HO174.out).2.2 | (with_reducible refine Kd.C_alloc ?_ _) | (with_reducible refine Kd.C_drewN ?_ _) | (with_reducible refine Kd.C_drew ?_))); (case side4 => exact (Kd.R_reads' HO174.out).2.1); rintro e w75 ⟨rfl, hb⟩; refine ⟨_, rfl, ?_⟩; have n0_ := Aside0.mk (Kd.R_below (by (with_reducible repeat (first | apply Kd.R_alloc | apply Kd.R_drewN | apply Kd.R_drew)); exact HO174.out) hb); have n1_ := Aside0.mk (Kd.R_below (by (with_reducible repeat (first | apply Kd.R_alloc | apply Kd.R_drewN | apply Kd.R_drew)); exact HO180.out) hb); have n2_ := Aside0.mk (Kd.R_below (by (with_reducible repeat (first | apply Kd.R_alloc | apply Kd.R_drewN | apply Kd.R_drew)); exact HO186.out) hb); have n3_ := Aside0.mk (below_step (by repeat (first | (with_reducible first | exact HB.out | apply below_alloc | apply pw_below_drewN | apply below_drew1) | exact HB.out)) hb); clear HO174; clear HO180; clear HO186; clear HB; have HO174 := n0_; have HO180 := n1_; have HO186 := n2_; have HB := n3_; clear n0_ n1_ n2_ n3_; (try clear hb); (try clear hb2); (try clear hk); (try clear hi); obtain ⟨Ao76, co76, eo76⟩ := Kd.R_slice HO180.out; subst eo76; obtain ⟨Ao77, co77, eo77⟩ := Kd.R_slice HO186.out; subst eo77) | (go_at_call 36; (with_reducible refine (impl_Identifiers.calls _ _ y178 _ _ y184 t188 _ ?side1 ?side2 ?side3 ?side4 A53.out (HLd.out.below (by repeat (first | (with_reducible first | exact HB.out | apply below_alloc | apply pw_below_drewN | apply below_drew1) | exact HB.out)))).mono ?_); (case side1 => repeat (first | exact (Kd.R_reads' HO180.out).2.2 | (with_reducible refine Kd.C_alloc ?_ _) | (with_reducible refine Kd.C_drewN ?_ _) | (with_reducible refine Kd.C_drew ?_))); (case side2 => exact (Kd.R_reads' HO180.out).2.1); (case side3 => repeat (first | exact (Kd.R_reads' HO186.out).2.2 | (with_reducible refine Kd.C_alloc ?_ _) | (with_reducible refine Kd.C_drewN ?_ _) | (with_reducible refine Kd.C_drew ?_))); (case side4 => exact (Kd.R_reads' HO186.out).2.1); rintro e w78 ⟨rfl, hb⟩; have n0_ := Aside0.mk (Kd.R_below (by (with_reducible repeat (first | apply Kd.R_alloc | apply Kd.R_drewN | apply Kd.R_drew)); exact HO174.out) hb); have n1_ := Aside0.mk (Kd.R_below (by (with_reducible repeat (first | apply Kd.R_alloc | apply Kd.R_drewN | apply Kd.R_drew)); exact HO180.out) hb); have n2_ := Aside0.mk (Kd.R_below (by (with_reducible repeat (first | apply Kd.R_alloc | apply Kd.R_drewN | apply Kd.R_drew)); exact HO186.out) hb); have n3_ := Aside0.mk (below_step (by repeat (first | (with_reducible first | exact HB.out | apply below_alloc | apply pw_below_drewN | apply below_drew1) | exact HB.out)) hb); clear HO174; clear HO180; clear HO186; clear HB; have HO174 := n0_; have HO180 := n1_; have HO186 := n2_; have HB := n3_; clear n0_ n1_ n2_ n3_; (try clear hb); (try clear hb2); (try clear hk); (try clear hi)))
                          go_ret
                          exact ⟨by first | rfl | (simp [errW_none, errW_some] <;> rfl) | (simp [*, errW_none, errW_some] <;> rfl) | (simp [bne_nil_]; done), by repeat (first | (with_reducible first | exact HB.out | apply below_alloc | apply pw_below_drewN | apply below_drew1) | exact HB.out)⟩
                      · rw [if_neg c52] at H
                        have c52b0 : (t187 == (-1)) = false := beq_eq_false_iff_ne.mpr c52
                        have c52b1 : (t187 != (-1)) = true := bne_iff_ne.mpr c52
                        obtain rfl := Option.some.inj H
                        go_wp2_with (first | ((with_reducible refine gate_builtin (b := .append) (xs := #[.const (.slice none 0 0), .tmp 66]) rfl ?_); (try (refine gate_guard (by rfl) ?_; dsimp only)); at_builtin; refine Kd.R_append_rows Kd.string (w0 := w) w.heap.size rfl (.const (.slice none 0 0)) (.tmp 66) 28 9 (.string ⟨#[]⟩) 16 rfl Tryd.underlying28 info9 rfl (by decide) (by omega) (.slice none 0 0) ([] : List ByteArray) l0 _ _ _ (fun _ => True) (fun _ => False) rfl rfl ?aO ?aR (fun _ _ h => h) (fun _ h => h.elim) ?aF ?aB ?aS ?aL ?_; (case aR => repeat (first | exact (Kd.C_below HR0.out HB.out) | (with_reducible refine Kd.C_alloc ?_ _) | (with_reducible refine Kd.C_drewN ?_ _) | (with_reducible refine Kd.C_drew ?_))); (case aB => exact (by repeat (first | (with_reducible first | exact HB.out | apply below_alloc | apply pw_below_drewN | apply below_drew1) | exact HB.out))); (case aF => exact (fun _ _ => trivial)); (case aO => exact ((Kd.R_nil _ _ _ _ (fun _ => True)))); (case aS => exact (below_size (by repeat (first | (with_reducible first | exact HB.out | apply below_alloc | apply pw_below_drewN | apply below_drew1) | exact HB.out)))); (case aL => have := LMc47.out; omega); intro v170 w79 ho hb hg hat; rw [← Ny169.out] at ho; have n0_ := Aside0.mk (hb); have n1_ := Aside0.mk (ho); clear HB; have HB := n0_; have HO171 := n1_; clear n0_ n1_; clear ho hb hg hat) | ((with_reducible refine gate_builtin (b := .append) (xs := #[.tmp 67, .tmp 69]) rfl ?_); (try (refine gate_guard (by rfl) ?_; dsimp only)); at_builtin; refine Kd.R_append Kd.string (w0 := w) w.heap.size rfl (.tmp 67) (.tmp 69) 28 9 (.string ⟨#[]⟩) 16 rfl Tryd.underlying28 info9 rfl (by decide) (by omega) v170 y169 a1 [.string a1] (fun _ => True) (fun _ => False) rfl rfl ?aP (fun _ hk => hk.elim) ?aF ?aO ?aB ?aS ?aL ?_; (case aP => exact rfl); (case aB => exact (by repeat (first | (with_reducible first | exact HB.out | apply below_alloc | apply pw_below_drewN | apply below_drew1) | exact HB.out))); (case aF => exact (fun _ _ => trivial)); (case aO => exact (by (with_reducible repeat (first | apply Kd.R_alloc | apply Kd.R_drewN | apply Kd.R_drew)); exact HO171.out)); (case aS => exact (below_size (by repeat (first | (with_reducible first | exact HB.out | apply below_alloc | apply pw_below_drewN | apply below_drew1) | exact HB.out)))); (case aL => have := LMc48.out; omega); intro v173 w80 ho hb hg hat; rw [← Ny172.out] at ho; have n0_ := Aside0.mk (hb); have n1_ := Aside0.mk (ho); clear HB; clear HO171; have HB := n0_; have HO174 := n1_; clear n0_ n1_; clear ho hb hg hat) | ((with_reducible refine gate_builtin (b := .append) (xs := #[.const (.slice none 0 0), .tmp 71]) rfl ?_); (try (refine gate_guard (by rfl) ?_; dsimp only)); at_builtin; refine Kd.R_append_rows Kd.string (w0 := w) w.heap.size rfl (.const (.slice none 0 0)) (.tmp 71) 28 9 (.string ⟨#[]⟩) 16 rfl Tryd.underlying28 info9 rfl (by decide) (by omega) (.slice none 0 0) ([] : List ByteArray) l0 _ _ _ (fun k_ => some k_ ≠ (v173 : Value).ownBlock) (fun _ => False) rfl rfl ?aO ?aR (fun _ _ h => h) (fun _ h => h.elim) ?aF ?aB ?aS ?aL ?_; (case aR => repeat (first | exact (Kd.C_below HR0.out HB.out) | (with_reducible refine Kd.C_alloc ?_ _) | (with_reducible refine Kd.C_drewN ?_ _) | (with_reducible refine Kd.C_drew ?_))); (case aB => exact (by repeat (first | (with_reducible first | exact HB.out | apply below_alloc | apply pw_below_drewN | apply below_drew1) | exact HB.out))); (case aF => exact (fun k_ hk => Kd.fresh' (Kd.R_lt (by (with_reducible repeat (first | apply Kd.R_alloc | apply Kd.R_drewN | apply Kd.R_drew)); exact HO174.out)) k_ hk)); (case aO => exact ((Kd.R_nil _ _ _ _ (fun k_ => some k_ ≠ (v173 : Value).ownBlock)))); (case aS => exact (below_size (by repeat (first | (with_reducible first | exact HB.out | apply below_alloc | apply pw_below_drewN | apply below_drew1) | exact HB.out)))); (case aL => have := LMc47.out; omega); intro v176 w81 ho hb hg hat; rw [← Ny175.out] at ho; have n0_ := Aside0.mk (Kd.R_after (Kd.R_apart_nil (by (with_reducible repeat (first | apply Kd.R_alloc | apply Kd.R_drewN | apply Kd.R_drew)); exact HO174.out)) hg hat); have n1_ := Aside0.mk (hb); have n2_ := Aside0.mk (ho); clear HO174; clear HB; have HO174 := n0_; have HB := n1_; have HO177 := n2_; clear n0_ n1_ n2_; clear ho hb hg hat) | ((with_reducible refine gate_builtin (b := .append) (xs := #[.tmp 72, .tmp 74]) rfl ?_); (try (refine gate_guard (by rfl) ?_; dsimp only)); at_builtin; refine Kd.R_append Kd.string (w0 := w) w.heap.size rfl (.tmp 72) (.tmp 74) 28 9 (.string ⟨#[]⟩) 16 rfl Tryd.underlying28 info9 rfl (by decide) (by omega) v176 y175 a2 [.string a2] (fun k_ => some k_ ≠ (v173 : Value).ownBlock) (fun _ => False) rfl rfl ?aP (fun _ hk => hk.elim) ?aF ?aO ?aB ?aS ?aL ?_; (case aP => exact rfl); (case aB => exact (by repeat (first | (with_reducible first | exact HB.out | apply below_alloc | apply pw_below_drewN | apply below_drew1) | exact HB.out))); (case aF => exact (fun k_ hk => Kd.fresh' (Kd.R_lt (by (with_reducible repeat (first | apply Kd.R_alloc | apply Kd.R_drewN | apply Kd.R_drew)); exact HO174.out)) k_ hk)); (case aO => exact (by (with_reducible repeat (first | apply Kd.R_alloc | apply Kd.R_drewN | apply Kd.R_drew)); exact HO177.out)); (case aS => exact (below_size (by repeat (first | (with_reducible first | exact HB.out | apply below_alloc | apply pw_below_drewN | apply below_drew1) | exact HB.out)))); (case aL => have := LMc49.out; omega); intro v179 w82 ho hb hg hat; rw [← Ny178.out] at ho; have n0_ := Aside0.mk (Kd.R_after (ok := (fun _ => True)) (by (with_reducible repeat (first | apply Kd.R_alloc | apply Kd.R_drewN | apply Kd.R_drew)); exact HO174.out) hg hat); have n1_ := Aside0.mk (hb); have n2_ := Aside0.mk (ho); clear HO174; clear HB; clear HO177; have HO174 := n0_; have HB := n1_; have HO180 := n2_; clear n0_ n1_ n2_; clear ho hb hg hat) | ((with_reducible refine gate_builtin (b := .append) (xs := #[.const (.slice none 0 0), .tmp 76]) rfl ?_); (try (refine gate_guard (by rfl) ?_; dsimp only)); at_builtin; refine Kd.R_append_rows Kd.string (w0 := w) w.heap.size rfl (.const (.slice none 0 0)) (.tmp 76) 28 9 (.string ⟨#[]⟩) 16 rfl Tryd.underlying28 info9 rfl (by decide) (by omega) (.slice none 0 0) ([] : List ByteArray) l0 _ _ _ (fun k_ => some k_ ≠ (v173 : Value).ownBlock ∧ some k_ ≠ (v179 : Value).ownBlock) (fun _ => False) rfl rfl ?aO ?aR (fun _ _ h => h) (fun _ h => h.elim) ?aF ?aB ?aS ?aL ?_; (case aR => repeat (first | exact (Kd.C_below HR0.out HB.out) | (with_reducible refine Kd.C_alloc ?_ _) | (with_reducible refine Kd.C_drewN ?_ _) | (with_reducible refine Kd.C_drew ?_))); (case aB => exact (by repeat (first | (with_reducible first | exact HB.out | apply below_alloc | apply pw_below_drewN | apply below_drew1) | exact HB.out))); (case aF => exact (fun k_ hk => ⟨Kd.fresh' (Kd.R_lt (by (with_reducible repeat (first | apply Kd.R_alloc | apply Kd.R_drewN | apply Kd.R_drew)); exact HO174.out)) k_ hk, Kd.fresh' (Kd.R_lt (by (with_reducible repeat (first | apply Kd.R_alloc | apply Kd.R_drewN | apply Kd.R_drew)); exact HO180.out)) k_ hk⟩)); (case aO => exact ((Kd.R_nil _ _ _ _ (fun k_ => some k_ ≠ (v173 : Value).ownBlock ∧ some k_ ≠ (v179 : Value).ownBlock)))); (case aS => exact (below_size (by repeat (first | (with_reducible first | exact HB.out | apply below_alloc | apply pw_below_drewN | apply below_drew1) | exact HB.out)))); (case aL => have := LMc47.out; omega); intro v182 w83 ho hb hg hat; rw [← Ny181.out] at ho; have n0_ := Aside0.mk (Kd.R_after (Kd.R_apart_nil (by (with_reducible repeat (first | apply Kd.R_alloc | apply Kd.R_drewN | apply Kd.R_drew)); exact HO174.out)) hg hat); have n1_ := Aside0.mk (Kd.R_after (Kd.R_apart_nil (by (with_reducible repeat (first | apply Kd.R_alloc | apply Kd.R_drewN | apply Kd.R_drew)); exact HO180.out)) hg hat); have n2_ := Aside0.mk (hb); have n3_ := Aside0.mk (ho); clear HO174; clear HO180; clear HB; have HO174 := n0_; have HO180 := n1_; have HB := n2_; have HO183 := n3_; clear n0_ n1_ n2_ n3_; clear ho hb hg hat) | ((with_reducible refine gate_builtin (b := .append) (xs := #[.tmp 77, .tmp 79]) rfl ?_); (try (refine gate_guard (by rfl) ?_; dsimp only)); at_builtin; refine Kd.R_append Kd.string (w0 := w) w.heap.size rfl (.tmp 77) (.tmp 79) 28 9 (.string ⟨#[]⟩) 16 rfl Tryd.underlying28 info9 rfl (by decide) (by omega) v182 y181 a3 [.string a3] (fun k_ => some k_ ≠ (v173 : Value).ownBlock ∧ some k_ ≠ (v179 : Value).ownBlock) (fun _ => False) rfl rfl ?aP (fun _ hk => hk.elim) ?aF ?aO ?aB ?aS ?aL ?_; (case aP => exact rfl); (case aB => exact (by repeat (first | (with_reducible first | exact HB.out | apply below_alloc | apply pw_below_drewN | apply below_drew1) | exact HB.out))); (case aF => exact (fun k_ hk => ⟨Kd.fresh' (Kd.R_lt (by (with_reducible repeat (first | apply Kd.R_alloc | apply Kd.R_drewN | apply Kd.R_drew)); exact HO174.out)) k_ hk, Kd.fresh' (Kd.R_lt (by (with_reducible repeat (first | apply Kd.R_alloc | apply Kd.R_drewN | apply Kd.R_drew)); exact HO180.out)) k_ hk⟩)); (case aO => exact (by (with_reducible repeat (first | apply Kd.R_alloc | apply Kd.R_drewN | apply Kd.R_drew)); exact HO183.out)); (case aS => exact (below_size (by repeat (first | (with_reducible first | exact HB.out | apply below_alloc | apply pw_below_drewN | apply below_drew1) | exact HB.out)))); (case aL => have := LMc50.out; omega); intro v185 w84 ho hb hg hat; rw [← Ny184.out] at ho; have n0_ := Aside0.mk (Kd.R_after (ok := (fun k_ => some k_ ≠ (v179 : Value).ownBlock)) (by (with_reducible repeat (first | apply Kd.R_alloc | apply Kd.R_drewN | apply Kd.R_drew)); exact Kd.R_mono HO174.out (fun _ hk => ⟨hk.1.2, hk.2⟩)) hg hat); have n1_ := Aside0.mk (Kd.R_after (ok := (fun k_ => some k_ ≠ (v173 : Value).ownBlock)) (by (with_reducible repeat (first | apply Kd.R_alloc | apply Kd.R_drewN | apply Kd.R_drew)); exact HO180.out) hg hat); have n2_ := Aside0.mk (hb); have n3_ := Aside0.mk (ho); clear HO174; clear HO180; clear HB; clear HO183; have HO174 := n0_; have HO180 := n1_; have HB := n2_; have HO186 := n3_; clear n0_ n1_ n2_ n3_; clear ho hb hg hat; obtain ⟨Ao85, co85, eo85⟩ := Kd.R_slice HO174.out; subst eo85) | ((with_reducible refine gate_callee (f := 36) rfl ?_); refine goesL_ (some 83) rfl rfl Tryd.func36 (by kernel_rfl) rfl #[.slice A0 l0.length c0, .slice Ao85 y172.length co85] rfl (by (try simp only [List.map_toArray, List.map_cons, List.map_nil]); first | done | rfl | (simp only [List.length_drop, List.length_take]; rfl)) ?_; (with_reducible refine (impl_Identifiers.calls _ _ l0 _ _ y172 t187 _ ?side1 ?side2 ?side3 ?side4 A51.out (HLd.out.below (by repeat (first | (with_reducible first | exact HB.out | apply below_alloc | apply pw_below_drewN | apply below_drew1) | exact HB.out)))).mono ?_); (case side1 => repeat (first | exact (Kd.C_below HR0.out HB.out) | (with_reducible refine Kd.C_alloc ?_ _) | (with_reducible refine Kd.C_drewN ?_ _) | (with_reducible refine Kd.C_drew ?_))); (case side2 => exact HC0.out); (case side3 => repeat (first | exact (Kd.R_reads' HO174.out).2.2 | (with_reducible refine Kd.C_alloc ?_ _) | (with_reducible refine Kd.C_drewN ?_ _) | (with_reducible refine Kd.C_drew ?_))); (case side4 => exact (Kd.R_reads' HO174.out).2.1); rintro e w86 ⟨rfl, hb⟩; refine ⟨_, rfl, ?_⟩; have n0_ := Aside0.mk (Kd.R_below (by (with_reducible repeat (first | apply Kd.R_alloc | apply Kd.R_drewN | apply Kd.R_drew)); exact HO174.out) hb); have n1_ := Aside0.mk (Kd.R_below (by (with_reducible repeat (first | apply Kd.R_alloc | apply Kd.R_drewN | apply Kd.R_drew)); exact HO180.out) hb); have n2_ := Aside0.mk (Kd.R_below (by (with_reducible repeat (first | apply Kd.R_alloc | apply Kd.R_drewN | apply Kd.R_drew)); exact HO186.out) hb); have n3_ := Aside0.mk (below_step (by repeat (first | (with_reducible first | exact HB.out | apply below_alloc | apply pw_below_drewN | apply below_drew1) | exact HB.out)) hb); clear HO174; clear HO180; clear HO186; clear HB; have HO174 := n0_; have HO180 := n1_; have HO186 := n2_; have HB := n3_; clear n0_ n1_ n2_ n3_; (try clear hb); (try clear hb2); (try clear hk); (try clear hi)))
                        go_ret
                        exact ⟨by first | rfl | (simp [errW_none, errW_some] <;> rfl) | (simp [*, errW_none, errW_some] <;> rfl) | (simp [bne_nil_]; done), by repeat (first | (with_reducible first | exact HB.out | apply below_alloc | apply pw_below_drewN | apply below_drew1) | exact HB.out)⟩
                    · rw [if_neg c50] at H
                      exact absurd H (by simp)
                  · rw [if_neg c49] at H
                    exact absurd H (by simp)
                · rw [if_neg c48] at H
                  exact absurd H (by simp)
              · rw [if_neg c47] at H
                exact absurd H (by simp)

/-! ### semantic_zzIndex: function 87 -/
def semantic_zzIndex.l0 : Nat → ByteArray → ByteArray → Int → Option (Int)
  | 0, _, _, _ => none
  | k + 1, x0, x1, x5 => if (wrap64 (x5 + (x1.size : Int))) ≤ (x0.size : Int) then (if 0 ≤ x5 then (if x5 ≤ (wrap64 (x5 + (x1.size : Int))) then (if (x0.extract (x5 : Int).toNat ((wrap64 (x5 + (x1.size : Int))) : Int).toNat).toList = x1.toList then (some x5) else (semantic_zzIndex.l0 k x0 x1 (wrap64 (x5 + 1)))) else (none)) else (none)) else (some (-1))
def semantic_zzIndex.f (k : Nat) (a0 : ByteArray) (a1 : ByteArray) : Option (Int) := semantic_zzIndex.l0 k a0 a1 0
theorem semantic_zzIndex.mono_l : ∀ k, (∀ y0 y1 y2, LeO (semantic_zzIndex.l0 k y0 y1 y2) (semantic_zzIndex.l0 (k + 1) y0 y1 y2))
  | 0 => fun _ _ _ r h => by simp [semantic_zzIndex.l0] at h
  | k + 1 => by
    have ih0 := semantic_zzIndex.mono_l k
    · intro y0 y1 y2
      unfold semantic_zzIndex.l0
      repeat' first
      | (with_reducible exact ih0 _ _ _)
      | (with_reducible exact LeO.refl _)
      | (with_reducible exact LeO.none _)
      | (with_reducible refine LeO.ite ?_ ?_)
      | (with_reducible refine LeO.bind ?_ (fun _ => ?_))
      | exact ih0 _ _ _
      | exact LeO.none _
      | refine LeO.ite ?_ ?_
      | refine LeO.bind ?_ (fun _ => ?_)
theorem semantic_zzIndex.mono : ∀ a0 a1 k, LeO (semantic_zzIndex.f k a0 a1) (semantic_zzIndex.f (k + 1) a0 a1) := by
  intro a0 a1 k
  have ih0 := semantic_zzIndex.mono_l k
  unfold semantic_zzIndex.f
  repeat' first
      | (with_reducible exact ih0 _ _ _)
      | (with_reducible exact LeO.refl _)
      | (with_reducible exact LeO.none _)
      | (with_reducible refine LeO.ite ?_ ?_)
      | (with_reducible refine LeO.bind ?_ (fun _ => ?_))
      | exact ih0 _ _ _
      | exact LeO.none _
      | refine LeO.ite ?_ ?_
      | refine LeO.bind ?_ (fun _ => ?_)
set_option maxHeartbeats 8000000 in
set_option maxRecDepth 100000 in
theorem semantic_zzIndex.calls (k : Nat) (a0 : ByteArray) (a1 : ByteArray) (r : Int) (w : World) (h : semantic_zzIndex.f k a0 a1 = some r) :
    Calls Tryd.prog 87 #[.string a0, .string a1] w fun e w' => e = .returned (.int .i64 r) ∧ Drawn0 w w' := by
  have H : (semantic_zzIndex.l0 k a0 a1 0) = some r := h
  clear h
  have H' := Aside0.mk H
  clear H
  go_enter Tryd.func87, Tryd.ntmps87
  go_wp2
  go_loopg [5] k (fun kq v5 w' => ∃ (x5_1 : Int), v5 = .int .i64 x5_1 ∧ Aside0 (semantic_zzIndex.l0 kq a0 a1 x5_1 = some r) ∧ Aside0 (kq ≤ k) ∧ Drawn0 w w')
  case atStart => exact ⟨(0), (by first | rfl | (simp; done) | (simp [*]; done) | (simp [bne_nil_]; done)), H', ⟨Nat.le_refl _⟩, by repeat (first | exact Drawn0.refl _ | apply Drawn0.step)⟩
  case round =>
    clear H'
    try clear p2
    obtain ⟨x5_1, rfl, HA, HK1, ⟨m1, rfl⟩⟩ := hrel
    cases gk with
    | zero => exact absurd HA.out (by simp [semantic_zzIndex.l0])
    | succ k1 =>
      have H := HA.out
      clear HA
      simp only [semantic_zzIndex.l0] at H
      by_cases c3 : (wrap64 (x5_1 + (a1.size : Int))) ≤ (a0.size : Int)
      · rw [if_pos c3] at H
        have c3b0 : decide ((wrap64 (x5_1 + (a1.size : Int))) ≤ (a0.size : Int)) = true := decide_eq_true c3
        clear c3
        by_cases c4 : 0 ≤ x5_1
        · rw [if_pos c4] at H
          have c4b0 := eq_true c4
          have c4b1 : decide (0 ≤ x5_1) = true := decide_eq_true c4
          clear c4
          by_cases c5 : x5_1 ≤ (wrap64 (x5_1 + (a1.size : Int)))
          · rw [if_pos c5] at H
            have c5b0 := eq_true c5
            have c5b1 : decide (x5_1 ≤ (wrap64 (x5_1 + (a1.size : Int)))) = true := decide_eq_true c5
            have c6b0 := eq_true (of_decide_eq_true (by first | (with_reducible assumption) | assumption) : (wrap64 (x5_1 + (a1.size : Int))) ≤ (a0.size : Int))
            by_cases c7 : (a0.extract (x5_1 : Int).toNat ((wrap64 (x5_1 + (a1.size : Int))) : Int).toNat).toList = a1.toList
            · rw [if_pos c7] at H
              (try (have c7bz := c7; simp only [ByteArray.size_extract, Nat.min_self] at c7bz; replace c7bz := decide_eq_true c7bz))
              have c7b0 : ((a0.extract (x5_1 : Int).toNat ((wrap64 (x5_1 + (a1.size : Int))) : Int).toNat).toList == a1.toList) = true := beq_iff_eq.mpr c7
              have c7b1 : ((a0.extract (x5_1 : Int).toNat ((wrap64 (x5_1 + (a1.size : Int))) : Int).toNat).toList != a1.toList) = false := bne_eq_false_iff_eq.mpr c7
              clear c7
              obtain rfl := Option.some.inj H
              go_wp2
              go_ret
              exact ⟨by first | rfl | (simp; done) | (simp [*]; done) | (simp [bne_nil_]; done), by repeat (first | exact Drawn0.refl _ | apply Drawn0.step)⟩
            · rw [if_neg c7] at H
              (try (have c7bz := c7; simp only [ByteArray.size_extract, Nat.min_self] at c7bz; replace c7bz := decide_eq_false c7bz))
              have c7b0 : ((a0.extract (x5_1 : Int).toNat ((wrap64 (x5_1 + (a1.size : Int))) : Int).toNat).toList == a1.toList) = false := beq_eq_false_iff_ne.mpr c7
              have c7b1 : ((a0.extract (x5_1 : Int).toNat ((wrap64 (x5_1 + (a1.size : Int))) : Int).toNat).toList != a1.toList) = true := bne_iff_ne.mpr c7
              have H' := Aside0.mk H
              clear H
              go_wp2
              go_roundg k1
              case measure => have := HK1.out; omega
              case rel => exact ⟨(wrap64 (x5_1 + 1)), (by first | rfl | (simp; done) | (simp [*]; done) | (simp [bne_nil_]; done)), H', ⟨by have := HK1.out; omega⟩, by repeat (first | exact Drawn0.refl _ | apply Drawn0.step)⟩
          · rw [if_neg c5] at H
            exact absurd H (by simp)
        · rw [if_neg c4] at H
          exact absurd H (by simp)
      · rw [if_neg c3] at H
        have c3b0 : decide ((wrap64 (x5_1 + (a1.size : Int))) ≤ (a0.size : Int)) = false := decide_eq_false c3
        clear c3
        obtain rfl := Option.some.inj H
        go_wp2
        go_ret
        exact ⟨by first | rfl | (simp; done) | (simp [*]; done) | (simp [bne_nil_]; done), by repeat (first | exact Drawn0.refl _ | apply Drawn0.step)⟩

/-! ### semantic_zzSplit: function 72 -/
def semantic_zzSplit.l1 : Nat → ByteArray → ByteArray → List ByteArray → Option (List ByteArray)
  | 0, _, _, _ => none
  | k + 1, x0, x1, x5 => (semantic_zzIndex.f k x0 x1).bind fun t190 => (if t190 < 0 then (if x5.length < 8796093022208 then (some (x5 ++ [x0])) else (none)) else (if 0 ≤ t190 then (if t190 ≤ (x0.size : Int) then (if x5.length < 8796093022208 then (if 0 ≤ (wrap64 (t190 + (x1.size : Int))) then (if (wrap64 (t190 + (x1.size : Int))) ≤ (x0.size : Int) then (semantic_zzSplit.l1 k (x0.extract ((wrap64 (t190 + (x1.size : Int))) : Int).toNat x0.size) x1 (x5 ++ [x0.extract 0 (t190 : Int).toNat])) else (none)) else (none)) else (none)) else (none)) else (none)))
def semantic_zzSplit.f (k : Nat) (a0 : ByteArray) (a1 : ByteArray) : Option (List ByteArray) := if (a1.size : Int) = 0 then (none) else (semantic_zzSplit.l1 k a0 a1 ([] : List ByteArray))
theorem semantic_zzSplit.mono_l : ∀ k, (∀ y0 y1 y2, LeO (semantic_zzSplit.l1 k y0 y1 y2) (semantic_zzSplit.l1 (k + 1) y0 y1 y2))
  | 0 => fun _ _ _ r h => by simp [semantic_zzSplit.l1] at h
  | k + 1 => by
    have ih0 := semantic_zzSplit.mono_l k
    · intro y0 y1 y2
      unfold semantic_zzSplit.l1
      repeat' first
      | (with_reducible exact ih0 _ _ _)
      | (with_reducible exact semantic_zzIndex.mono _ _ _)
      | (with_reducible exact LeO.refl _)
      | (with_reducible exact LeO.none _)
      | (with_reducible refine LeO.ite ?_ ?_)
      | (with_reducible refine LeO.bind ?_ (fun _ => ?_))
      | exact ih0 _ _ _
      | exact semantic_zzIndex.mono _ _ _
      | exact LeO.none _
      | refine LeO.ite ?_ ?_
      | refine LeO.bind ?_ (fun _ => ?_)
theorem semantic_zzSplit.mono : ∀ a0 a1 k, LeO (semantic_zzSplit.f k a0 a1) (semantic_zzSplit.f (k + 1) a0 a1) := by
  intro a0 a1 k
  have ih0 := semantic_zzSplit.mono_l k
  unfold semantic_zzSplit.f
  repeat' first
      | (with_reducible exact ih0 _ _ _)
      | (with_reducible exact semantic_zzIndex.mono _ _ _)
      | (with_reducible exact LeO.refl _)
      | (with_reducible exact LeO.none _)
      | (with_reducible refine LeO.ite ?_ ?_)
      | (with_reducible refine LeO.bind ?_ (fun _ => ?_))
      | exact ih0 _ _ _
      | exact semantic_zzIndex.mono _ _ _
      | exact LeO.none _
      | refine LeO.ite ?_ ?_
      | refine LeO.bind ?_ (fun _ => ?_)
set_option maxHeartbeats 8000000 in
set_option maxRecDepth 100000 in
theorem semantic_zzSplit.calls (k : Nat) (a0 : ByteArray) (a1 : ByteArray) (r : List ByteArray) (w : World) (h : semantic_zzSplit.f k a0 a1 = some r) :
    Calls Tryd.prog 72 #[.string a0, .string a1] w fun e w' => ∃ v0_ : Value, e = .returned (v0_) ∧ Kd.R Kd.string 9 w' w.heap.size (fun _ => True) v0_ r ∧ Below w.heap.size w w' := by
  have HB := Aside0.mk (Below.refl w.heap.size w)
  have H : (if (a1.size : Int) = 0 then (none) else (semantic_zzSplit.l1 k a0 a1 ([] : List ByteArray))) = some r := h
  clear h
  by_cases c3 : (a1.size : Int) = 0
  · rw [if_pos c3] at H
    exact absurd H (by simp)
  · rw [if_neg c3] at H
    have c3b0 : ((a1.size : Int) == 0) = false := beq_eq_false_iff_ne.mpr c3
    have c3b1 : ((a1.size : Int) != 0) = true := bne_iff_ne.mpr c3
    have H' := Aside0.mk H
    clear H
    go_enter Tryd.func72, Tryd.ntmps72
    go_wp2
    go_loopg [0, 5] k (fun kq v0 v5 w' => ∃ (x0_1 : ByteArray) (x5_1 : List ByteArray), v0 = .string x0_1 ∧ Aside0 (semantic_zzSplit.l1 kq x0_1 a1 x5_1 = some r) ∧ Aside0 (kq ≤ k) ∧ Aside0 (Kd.R Kd.string 9 w' w.heap.size (fun _ => True) v5 x5_1) ∧ Aside0 (Below w.heap.size w w'))
    case atStart => exact ⟨(a0), (([] : List ByteArray)), (by first | rfl | (simp; done) | (simp [*]; done) | (simp [bne_nil_]; done)), H', ⟨Nat.le_refl _⟩, ⟨by first | exact Kd.R_nil _ _ _ _ _ | exact Kd.N_nil _ _ _ _ _ | exact Kd.V_nil _ _ _ _ _ | exact Kd.Q_nil _ _ _ _ _ | exact Kd.S_nil _ _ _ _ _⟩, ⟨by repeat (first | (with_reducible first | exact HB.out | apply below_alloc | apply pw_below_drewN | apply below_drew1) | exact HB.out)⟩⟩
    case round =>
      clear H'
      try clear p2
      try clear c3
      try clear c3b0
      try clear c3b1
      obtain ⟨x0_1, x5_1, rfl, HA, HK1, HO_5, HB⟩ := hrel
      cases gk with
      | zero => exact absurd HA.out (by simp [semantic_zzSplit.l1])
      | succ k1 =>
        have H := HA.out
        clear HA
        simp only [semantic_zzSplit.l1] at H
        replace H := Option.bind_eq_some_iff.mp H
        obtain ⟨t190, A40, H⟩ := H
        replace H : (if t190 < 0 then (if x5_1.length < 8796093022208 then (some (x5_1 ++ [x0_1])) else (none)) else (if 0 ≤ t190 then (if t190 ≤ (x0_1.size : Int) then (if x5_1.length < 8796093022208 then (if 0 ≤ (wrap64 (t190 + (a1.size : Int))) then (if (wrap64 (t190 + (a1.size : Int))) ≤ (x0_1.size : Int) then (semantic_zzSplit.l1 k1 (x0_1.extract ((wrap64 (t190 + (a1.size : Int))) : Int).toNat x0_1.size) a1 (x5_1 ++ [x0_1.extract 0 (t190 : Int).toNat])) else (none)) else (none)) else (none)) else (none)) else (none))) = some r := H
        have A4 := Aside0.mk A40
        clear A40
        by_cases c5 : t190 < 0
        · rw [if_pos c5] at H
          have c5b0 : decide (t190 < 0) = true := decide_eq_true c5
          clear c5
          by_cases c6 : x5_1.length < 8796093022208
          · rw [if_pos c6] at H
            have LMc6 := Aside0.mk c6
            clear c6
            obtain ⟨y191, hy191⟩ : ∃ y_ : List ByteArray, y_ = (x5_1 ++ [x0_1]) := ⟨_, rfl⟩
            replace H : (some y191) = some r := by first | (rw [hy191]; with_reducible exact H) | (have H2_ := (Option.bind_some _ _).symm.trans H; rw [hy191]; with_reducible exact H2_) | (have H2_ := (Option.bind_some _ _).symm.trans H; with_reducible exact H2_) | with_reducible exact H | (rw [hy191]; exact H) | exact H
            have Ny191 := Aside0.mk hy191
            clear hy191
            obtain rfl := Option.some.inj H
            go_wp2_with (first | ((with_reducible refine gate_callee (f := 87) rfl ?_); refine goesL_ (some 39) rfl rfl Tryd.func87 (by kernel_rfl) rfl #[.string x0_1, .string a1] rfl (by (try simp only [List.map_toArray, List.map_cons, List.map_nil]); first | done | rfl | (simp only [List.length_drop, List.length_take]; rfl)) ?_; (with_reducible refine (semantic_zzIndex.calls k1 x0_1 a1 t190 _ A4.out).mono ?_); rintro e w' ⟨rfl, ⟨nd, rfl⟩⟩; refine ⟨_, rfl, ?_⟩) | ((with_reducible refine gate_builtin (b := .append) (xs := #[.tmp 42, .tmp 44]) rfl ?_); at_builtin; refine Kd.R_append Kd.string (w0 := w) w.heap.size rfl (.tmp 42) (.tmp 44) 28 9 (.string ⟨#[]⟩) 16 rfl Tryd.underlying28 info9 rfl (by decide) (by omega) u5 x5_1 x0_1 [.string x0_1] (fun _ => True) (fun _ => False) rfl rfl ?aP (fun _ hk => hk.elim) ?aF ?aO ?aB ?aS ?aL ?_; (case aP => exact rfl); (case aB => exact (by repeat (first | (with_reducible first | exact HB.out | apply below_alloc | apply pw_below_drewN | apply below_drew1) | exact HB.out))); (case aF => exact (fun _ _ => trivial)); (case aO => exact (by (with_reducible repeat (first | apply Kd.R_alloc | apply Kd.R_drewN | apply Kd.R_drew)); exact HO_5.out)); (case aS => exact (below_size (by repeat (first | (with_reducible first | exact HB.out | apply below_alloc | apply pw_below_drewN | apply below_drew1) | exact HB.out)))); (case aL => have := LMc6.out; omega); intro v192 w7 ho hb hg hat; rw [← Ny191.out] at ho; have n0_ := Aside0.mk (hb); have n1_ := Aside0.mk (ho); clear HB; clear HO_5; have HB := n0_; have HO193 := n1_; clear n0_ n1_; clear ho hb hg hat))
            go_ret
            exact ⟨_, by first | rfl | (simp [errW_none, errW_some] <;> rfl) | (simp [*, errW_none, errW_some] <;> rfl) | (simp [bne_nil_]; done), by (with_reducible repeat (first | apply Kd.R_alloc | apply Kd.R_drewN | apply Kd.R_drew)); exact HO193.out, by repeat (first | (with_reducible first | exact HB.out | apply below_alloc | apply pw_below_drewN | apply below_drew1) | exact HB.out)⟩
          · rw [if_neg c6] at H
            exact absurd H (by simp)
        · rw [if_neg c5] at H
          have c5b0 : decide (t190 < 0) = false := decide_eq_false c5
          clear c5
          by_cases c8 : 0 ≤ t190
          · rw [if_pos c8] at H
            have c8b0 := eq_true c8
            have c8b1 : decide (0 ≤ t190) = true := decide_eq_true c8
            clear c8
            by_cases c9 : t190 ≤ (x0_1.size : Int)
            · rw [if_pos c9] at H
              have c9b0 := eq_true c9
              have c9b1 : decide (t190 ≤ (x0_1.size : Int)) = true := decide_eq_true c9
              clear c9
              by_cases c10 : x5_1.length < 8796093022208
              · rw [if_pos c10] at H
                have LMc10 := Aside0.mk c10
                clear c10
                obtain ⟨y194, hy194⟩ : ∃ y_ : List ByteArray, y_ = (x5_1 ++ [x0_1.extract 0 (t190 : Int).toNat]) := ⟨_, rfl⟩
                replace H : (if 0 ≤ (wrap64 (t190 + (a1.size : Int))) then (if (wrap64 (t190 + (a1.size : Int))) ≤ (x0_1.size : Int) then (semantic_zzSplit.l1 k1 (x0_1.extract ((wrap64 (t190 + (a1.size : Int))) : Int).toNat x0_1.size) a1 y194) else (none)) else (none)) = some r := by first | (rw [hy194]; with_reducible exact H) | (have H2_ := (Option.bind_some _ _).symm.trans H; rw [hy194]; with_reducible exact H2_) | (have H2_ := (Option.bind_some _ _).symm.trans H; with_reducible exact H2_) | with_reducible exact H | (rw [hy194]; exact H) | exact H
                have Ny194 := Aside0.mk hy194
                clear hy194
                obtain ⟨ji11, hji11⟩ : ∃ j_ : Int, (wrap64 (t190 + (a1.size : Int))) = j_ := ⟨_, rfl⟩
                replace H : (if 0 ≤ (ji11) then (if (ji11) ≤ (x0_1.size : Int) then (semantic_zzSplit.l1 k1 (x0_1.extract ((ji11) : Int).toNat x0_1.size) a1 y194) else (none)) else (none)) = some r := by first | (rw [hji11] at H; exact H) | (simp only [hji11] at H ⊢; exact H)
                (try rw [hji11] at A4)
                have hji11w : (IntKind.i64.wrap (t190 + (a1.size : Int))) = ji11 := (i64_w _).trans hji11
                by_cases c12 : 0 ≤ (ji11)
                · rw [if_pos c12] at H
                  have c12b0 := eq_true c12
                  have c12b1 : decide (0 ≤ (ji11)) = true := decide_eq_true c12
                  clear c12
                  by_cases c13 : (ji11) ≤ (x0_1.size : Int)
                  · rw [if_pos c13] at H
                    have c13b0 := eq_true c13
                    have c13b1 : decide ((ji11) ≤ (x0_1.size : Int)) = true := decide_eq_true c13
                    clear c13
                    have H' := Aside0.mk H
                    clear H
                    go_wp2_with (first | ((with_reducible refine gate_callee (f := 87) rfl ?_); refine goesL_ (some 39) rfl rfl Tryd.func87 (by kernel_rfl) rfl #[.string x0_1, .string a1] rfl (by (try simp only [List.map_toArray, List.map_cons, List.map_nil]); first | done | rfl | (simp only [List.length_drop, List.length_take]; rfl)) ?_; (with_reducible refine (semantic_zzIndex.calls k1 x0_1 a1 t190 _ A4.out).mono ?_); rintro e w' ⟨rfl, ⟨nd, rfl⟩⟩; refine ⟨_, rfl, ?_⟩) | ((with_reducible refine gate_builtin (b := .append) (xs := #[.tmp 46, .tmp 50]) rfl ?_); at_builtin; refine Kd.R_append Kd.string (w0 := w) w.heap.size rfl (.tmp 46) (.tmp 50) 28 9 (.string ⟨#[]⟩) 16 rfl Tryd.underlying28 info9 rfl (by decide) (by omega) u5 x5_1 (x0_1.extract 0 (t190 : Int).toNat) [.string (x0_1.extract 0 (t190 : Int).toNat)] (fun _ => True) (fun _ => False) rfl rfl ?aP (fun _ hk => hk.elim) ?aF ?aO ?aB ?aS ?aL ?_; (case aP => exact rfl); (case aB => exact (by repeat (first | (with_reducible first | exact HB.out | apply below_alloc | apply pw_below_drewN | apply below_drew1) | exact HB.out))); (case aF => exact (fun _ _ => trivial)); (case aO => exact (by (with_reducible repeat (first | apply Kd.R_alloc | apply Kd.R_drewN | apply Kd.R_drew)); exact HO_5.out)); (case aS => exact (below_size (by repeat (first | (with_reducible first | exact HB.out | apply below_alloc | apply pw_below_drewN | apply below_drew1) | exact HB.out)))); (case aL => have := LMc10.out; omega); intro v195 w14 ho hb hg hat; rw [← Ny194.out] at ho; have n0_ := Aside0.mk (hb); have n1_ := Aside0.mk (ho); clear HB; clear HO_5; have HB := n0_; have HO196 := n1_; clear n0_ n1_; clear ho hb hg hat))
                    go_roundg k1
                    case measure => have := HK1.out; omega
                    case rel => exact ⟨(x0_1.extract ((ji11) : Int).toNat x0_1.size), (y194), (by first | rfl | (simp; done) | (simp only [← hji11] <;> (first | rfl | simp)) | (simp [*]; done)), H', ⟨by have := HK1.out; omega⟩, ⟨by (with_reducible repeat (first | apply Kd.R_alloc | apply Kd.R_drewN | apply Kd.R_drew)); exact HO196.out⟩, ⟨by repeat (first | (with_reducible first | exact HB.out | apply below_alloc | apply pw_below_drewN | apply below_drew1) | exact HB.out)⟩⟩
                  · rw [if_neg c13] at H
                    exact absurd H (by simp)
                · rw [if_neg c12] at H
                  exact absurd H (by simp)
              · rw [if_neg c10] at H
                exact absurd H (by simp)
            · rw [if_neg c9] at H
              exact absurd H (by simp)
          · rw [if_neg c8] at H
            exact absurd H (by simp)

/-! ### semantic_removeBuildMetadata: function 92 -/
def semantic_removeBuildMetadata.f (k : Nat) (a0 : ByteArray) : Option (ByteArray) := (semantic_zzSplit.f k a0 (⟨#[43]⟩ : ByteArray)).bind fun t197 => (if 0 < (t197.length : Int) then (some (rdOf ByteArray.empty t197 0)) else (none))
theorem semantic_removeBuildMetadata.mono : ∀ a0 k, LeO (semantic_removeBuildMetadata.f k a0) (semantic_removeBuildMetadata.f (k + 1) a0) := by
  intro a0 k
  unfold semantic_removeBuildMetadata.f
  repeat' first
      | (with_reducible exact semantic_zzSplit.mono _ _ _)
      | (with_reducible exact LeO.refl _)
      | (with_reducible exact LeO.none _)
      | (with_reducible refine LeO.ite ?_ ?_)
      | (with_reducible refine LeO.bind ?_ (fun _ => ?_))
      | exact semantic_zzSplit.mono _ _ _
      | exact LeO.none _
      | refine LeO.ite ?_ ?_
      | refine LeO.bind ?_ (fun _ => ?_)
set_option maxHeartbeats 8000000 in
set_option maxRecDepth 100000 in
theorem semantic_removeBuildMetadata.calls (k : Nat) (a0 : ByteArray) (r : ByteArray) (w : World) (h : semantic_removeBuildMetadata.f k a0 = some r) :
    Calls Tryd.prog 92 #[.string a0] w fun e w' => e = .returned (.string r) ∧ Below w.heap.size w w' := by
  have HB := Aside0.mk (Below.refl w.heap.size w)
  have H : ((semantic_zzSplit.f k a0 (⟨#[43]⟩ : ByteArray)).bind fun t197 => (if 0 < (t197.length : Int) then (some (rdOf ByteArray.empty t197 0)) else (none))) = some r := h
  clear h
  replace H := Option.bind_eq_some_iff.mp H
  obtain ⟨t197, A20, H⟩ := H
  replace H : (if 0 < (t197.length : Int) then (some (rdOf ByteArray.empty t197 0)) else (none)) = some r := H
  have A2 := Aside0.mk A20
  clear A20
  by_cases c3 : 0 < (t197.length : Int)
  · rw [if_pos c3] at H
    have c3b0 : decide (0 < (t197.length : Int)) = true := decide_eq_true c3
    have c3b1 : decide (0 < t197.length) = true := decide_eq_true (by omega)
    clear c3
    obtain rfl := Option.some.inj H
    go_enter Tryd.func92, Tryd.ntmps92
    go_wp2_with (first | ((with_reducible refine gate_callee (f := 72) rfl ?_); refine goesL_ (some 5) rfl rfl Tryd.func72 (by kernel_rfl) rfl #[.string a0, .string (⟨#[43]⟩ : ByteArray)] rfl (by (try simp only [List.map_toArray, List.map_cons, List.map_nil]); first | done | rfl | (simp only [List.length_drop, List.length_take]; rfl)) ?_; (with_reducible refine (semantic_zzSplit.calls k a0 (⟨#[43]⟩ : ByteArray) t197 _ A2.out).mono ?_); rintro e w4 ⟨v198, rfl, ho0, hb⟩; refine ⟨_, rfl, ?_⟩; have n0_ := Aside0.mk (Kd.R_lower ho0 (below_size (by repeat (first | (with_reducible first | exact HB.out | apply below_alloc | apply pw_below_drewN | apply below_drew1) | exact HB.out)))); have n1_ := Aside0.mk (below_step (by repeat (first | (with_reducible first | exact HB.out | apply below_alloc | apply pw_below_drewN | apply below_drew1) | exact HB.out)) hb); clear HB; have HO199 := n0_; have HB := n1_; clear n0_ n1_; (try clear hb); (try clear hb2); (try clear hk); (try clear hi); (try clear ho0); obtain ⟨Ao5, co5, eo5⟩ := Kd.R_slice HO199.out; subst eo5; have p200 : 0 ≤ (0 : Int) := (by omega); have q200 : 0 < (t197.length : Int) := of_decide_eq_true (by first | (with_reducible assumption) | assumption); obtain ⟨ad200, e200, hx200_0⟩ := Kd.at_string (Kd.R_reads' HO199.out).2.2 0 p200 q200; cases e200; have qi200 : (0 < t197.length) = True := eq_true (by omega); (try rw [show ((0 : Int)).toNat = 0 from rfl] at hx200_0); (try rw [Addr.add_zero'] at hx200_0); replace p200 := eq_true p200; replace q200 := eq_true q200))
    go_ret
    exact ⟨by first | rfl | (simp [errW_none, errW_some] <;> rfl) | (simp [*, errW_none, errW_some] <;> rfl) | (simp [bne_nil_]; done), by repeat (first | (with_reducible first | exact HB.out | apply below_alloc | apply pw_below_drewN | apply below_drew1) | exact HB.out)⟩
  · rw [if_neg c3] at H
    exact absurd H (by simp)

/-! ### stringslite_HasPrefix: function 106 -/
def stringslite_HasPrefix.f (a0 : ByteArray) (a1 : ByteArray) : Option (Bool) := if (a0.size : Int) ≥ (a1.size : Int) then (if 0 ≤ (a1.size : Int) then (if (a1.size : Int) ≤ (a0.size : Int) then (some ((a0.extract 0 a1.size).toList == a1.toList)) else (none)) else (none)) else (some false)
set_option maxHeartbeats 8000000 in
set_option maxRecDepth 100000 in
theorem stringslite_HasPrefix.calls (a0 : ByteArray) (a1 : ByteArray) (r : Bool) (w : World) (h : stringslite_HasPrefix.f a0 a1 = some r) :
    Calls Tryd.prog 106 #[.string a0, .string a1] w fun e w' => e = .returned (.bool r) ∧ Drawn0 w w' := by
  have H : (if (a0.size : Int) ≥ (a1.size : Int) then (if 0 ≤ (a1.size : Int) then (if (a1.size : Int) ≤ (a0.size : Int) then (some ((a0.extract 0 a1.size).toList == a1.toList)) else (none)) else (none)) else (some false)) = some r := h
  clear h
  by_cases c3 : (a0.size : Int) ≥ (a1.size : Int)
  · rw [if_pos c3] at H
    have c3b0 : decide ((a1.size : Int) ≤ (a0.size : Int)) = true := decide_eq_true c3
    have c3b1 : decide (a1.size ≤ a0.size) = true := decide_eq_true (Int.ofNat_le.mp c3)
    clear c3
    by_cases c4 : 0 ≤ (a1.size : Int)
    · rw [if_pos c4] at H
      have c4b0 := eq_true c4
      have c4b1 : decide (0 ≤ (a1.size : Int)) = true := decide_eq_true c4
      clear c4
      by_cases c5 : (a1.size : Int) ≤ (a0.size : Int)
      · rw [if_pos c5] at H
        have c5b0 := eq_true c5
        have c5b1 : decide ((a1.size : Int) ≤ (a0.size : Int)) = true := decide_eq_true c5
        clear c5
        obtain rfl := Option.some.inj H
        go_enter Tryd.func106, Tryd.ntmps106
        go_wp2
        go_ret
        exact ⟨by first | rfl | (simp; done) | (simp [*]; done) | (simp [bne_nil_]; done), by repeat (first | exact Drawn0.refl _ | apply Drawn0.step)⟩
      · rw [if_neg c5] at H
        exact absurd H (by simp)
    · rw [if_neg c4] at H
      exact absurd H (by simp)
  · rw [if_neg c3] at H
    have c3b0 : decide ((a1.size : Int) ≤ (a0.size : Int)) = false := decide_eq_false c3
    have c3b1 : decide (a1.size ≤ a0.size) = false := decide_eq_false (fun h => c3 (Int.ofNat_le.mpr h))
    clear c3
    obtain rfl := Option.some.inj H
    go_enter Tryd.func106, Tryd.ntmps106
    go_wp2
    go_ret
    exact ⟨by first | rfl | (simp; done) | (simp [*]; done) | (simp [bne_nil_]; done), by repeat (first | exact Drawn0.refl _ | apply Drawn0.step)⟩

/-! ### stringslite_TrimPrefix: function 101 -/
def stringslite_TrimPrefix.f (a0 : ByteArray) (a1 : ByteArray) : Option (ByteArray) := (stringslite_HasPrefix.f a0 a1).bind fun t201 => (if t201 = true then (if 0 ≤ (a1.size : Int) then (if (a1.size : Int) ≤ (a0.size : Int) then (some (a0.extract a1.size a0.size)) else (none)) else (none)) else (some a0))
set_option maxHeartbeats 8000000 in
set_option maxRecDepth 100000 in
theorem stringslite_TrimPrefix.calls (a0 : ByteArray) (a1 : ByteArray) (r : ByteArray) (w : World) (h : stringslite_TrimPrefix.f a0 a1 = some r) :
    Calls Tryd.prog 101 #[.string a0, .string a1] w fun e w' => e = .returned (.string r) ∧ Drawn0 w w' := by
  have H : ((stringslite_HasPrefix.f a0 a1).bind fun t201 => (if t201 = true then (if 0 ≤ (a1.size : Int) then (if (a1.size : Int) ≤ (a0.size : Int) then (some (a0.extract a1.size a0.size)) else (none)) else (none)) else (some a0))) = some r := h
  clear h
  replace H := Option.bind_eq_some_iff.mp H
  obtain ⟨t201, A30, H⟩ := H
  replace H : (if t201 = true then (if 0 ≤ (a1.size : Int) then (if (a1.size : Int) ≤ (a0.size : Int) then (some (a0.extract a1.size a0.size)) else (none)) else (none)) else (some a0)) = some r := H
  have A3 := Aside0.mk A30
  clear A30
  by_cases c4 : t201 = true
  · subst c4
    have H1 : (if 0 ≤ (a1.size : Int) then (if (a1.size : Int) ≤ (a0.size : Int) then (some (a0.extract a1.size a0.size)) else (none)) else (none)) = some r := by rw [if_pos rfl] at H; exact H
    clear H
    have H := H1
    clear H1
    by_cases c5 : 0 ≤ (a1.size : Int)
    · rw [if_pos c5] at H
      have c5b0 := eq_true c5
      have c5b1 : decide (0 ≤ (a1.size : Int)) = true := decide_eq_true c5
      clear c5
      by_cases c6 : (a1.size : Int) ≤ (a0.size : Int)
      · rw [if_pos c6] at H
        have c6b0 := eq_true c6
        have c6b1 : decide ((a1.size : Int) ≤ (a0.size : Int)) = true := decide_eq_true c6
        clear c6
        obtain rfl := Option.some.inj H
        go_enter Tryd.func101, Tryd.ntmps101
        go_wp2_with (first | ((with_reducible refine gate_callee (f := 106) rfl ?_); refine goesL_ (some 7) rfl rfl Tryd.func106 (by kernel_rfl) rfl #[.string a0, .string a1] rfl (by (try simp only [List.map_toArray, List.map_cons, List.map_nil]); first | done | rfl | (simp only [List.length_drop, List.length_take]; rfl)) ?_; (with_reducible refine (stringslite_HasPrefix.calls a0 a1 true _ A3.out).mono ?_); rintro e w' ⟨rfl, ⟨nd, rfl⟩⟩; refine ⟨_, rfl, ?_⟩))
        go_ret
        exact ⟨by first | rfl | (simp; done) | (simp [*]; done) | (simp [bne_nil_]; done), by repeat (first | exact Drawn0.refl _ | apply Drawn0.step)⟩
      · rw [if_neg c6] at H
        exact absurd H (by simp)
    · rw [if_neg c5] at H
      exact absurd H (by simp)
  · replace c4 := Bool.eq_false_iff.mpr c4
    subst c4
    have H1 : (some a0) = some r := by rw [if_neg (show ¬ (false = true) by decide)] at H; exact H
    clear H
    have H := H1
    clear H1
    obtain rfl := Option.some.inj H
    go_enter Tryd.func101, Tryd.ntmps101
    go_wp2_with (first | ((with_reducible refine gate_callee (f := 106) rfl ?_); refine goesL_ (some 7) rfl rfl Tryd.func106 (by kernel_rfl) rfl #[.string a0, .string a1] rfl (by (try simp only [List.map_toArray, List.map_cons, List.map_nil]); first | done | rfl | (simp only [List.length_drop, List.length_take]; rfl)) ?_; (with_reducible refine (stringslite_HasPrefix.calls a0 a1 false _ A3.out).mono ?_); rintro e w' ⟨rfl, ⟨nd, rfl⟩⟩; refine ⟨_, rfl, ?_⟩))
    go_ret
    exact ⟨by first | rfl | (simp; done) | (simp [*]; done) | (simp [bne_nil_]; done), by repeat (first | exact Drawn0.refl _ | apply Drawn0.step)⟩

/-! ### strings_TrimPrefix: function 93 -/
def strings_TrimPrefix.f (a0 : ByteArray) (a1 : ByteArray) : Option (ByteArray) := (stringslite_TrimPrefix.f a0 a1).bind fun t202 => (some t202)
set_option maxHeartbeats 8000000 in
set_option maxRecDepth 100000 in
theorem strings_TrimPrefix.calls (a0 : ByteArray) (a1 : ByteArray) (r : ByteArray) (w : World) (h : strings_TrimPrefix.f a0 a1 = some r) :
    Calls Tryd.prog 93 #[.string a0, .string a1] w fun e w' => e = .returned (.string r) ∧ Drawn0 w w' := by
  have H : ((stringslite_TrimPrefix.f a0 a1).bind fun t202 => (some t202)) = some r := h
  clear h
  replace H := Option.bind_eq_some_iff.mp H
  obtain ⟨t202, A30, H⟩ := H
  replace H : (some t202) = some r := H
  have A3 := Aside0.mk A30
  clear A30
  obtain rfl := Option.some.inj H
  go_enter Tryd.func93, Tryd.ntmps93
  go_wp2_with (first | ((with_reducible refine gate_callee (f := 101) rfl ?_); refine goesL_ (some 7) rfl rfl Tryd.func101 (by kernel_rfl) rfl #[.string a0, .string a1] rfl (by (try simp only [List.map_toArray, List.map_cons, List.map_nil]); first | done | rfl | (simp only [List.length_drop, List.length_take]; rfl)) ?_; (with_reducible refine (stringslite_TrimPrefix.calls a0 a1 t202 _ A3.out).mono ?_); rintro e w' ⟨rfl, ⟨nd, rfl⟩⟩; refine ⟨_, rfl, ?_⟩))
  go_ret
  exact ⟨by first | rfl | (simp; done) | (simp [*]; done) | (simp [bne_nil_]; done), by repeat (first | exact Drawn0.refl _ | apply Drawn0.step)⟩

/-! ### semantic_compareBuildComponents: function 77 -/
mutual
def semantic_compareBuildComponents.j0 : Nat → ByteArray → ByteArray → Bool → Option (Int)
  | 0, _, _, _ => none
  | k + 1, x0, x1, x18 => if x18 = true then (some 1) else (if x0.toList = ([] : List UInt8) then (semantic_compareBuildComponents.j1 k x0 x1 false) else (semantic_compareBuildComponents.j1 k x0 x1 (x1.toList == ([] : List UInt8))))
def semantic_compareBuildComponents.j1 : Nat → ByteArray → ByteArray → Bool → Option (Int)
  | 0, _, _, _ => none
  | k + 1, x0, x1, x24 => if x24 = true then (some (-1)) else ((semantic_zzSplit.f k x0 (⟨#[46]⟩ : ByteArray)).bind fun t207 => ((semantic_zzSplit.f k x1 (⟨#[46]⟩ : ByteArray)).bind fun t210 => ((Giv.semantic_compareSemverBuildComponents.f t207 t210).bind fun t213 => (some t213))))
end
def semantic_compareBuildComponents.f (k : Nat) (a0 : ByteArray) (a1 : ByteArray) : Option (Int) := (semantic_removeBuildMetadata.f k a0).bind fun t203 => ((semantic_removeBuildMetadata.f k a1).bind fun t204 => ((strings_TrimPrefix.f t203 (⟨#[45]⟩ : ByteArray)).bind fun t205 => ((strings_TrimPrefix.f t204 (⟨#[45]⟩ : ByteArray)).bind fun t206 => (if t205.toList = ([] : List UInt8) then (semantic_compareBuildComponents.j0 k t205 t206 (t206.toList != ([] : List UInt8))) else (semantic_compareBuildComponents.j0 k t205 t206 false)))))
theorem semantic_compareBuildComponents.mono_l : ∀ k, (∀ y0 y1 y2, LeO (semantic_compareBuildComponents.j0 k y0 y1 y2) (semantic_compareBuildComponents.j0 (k + 1) y0 y1 y2)) ∧ (∀ y0 y1 y2, LeO (semantic_compareBuildComponents.j1 k y0 y1 y2) (semantic_compareBuildComponents.j1 (k + 1) y0 y1 y2))
  | 0 => ⟨fun _ _ _ r h => by simp [semantic_compareBuildComponents.j0] at h, fun _ _ _ r h => by simp [semantic_compareBuildComponents.j1] at h⟩
  | k + 1 => by
    obtain ⟨ih0, ih1⟩ := semantic_compareBuildComponents.mono_l k
    refine ⟨?_, ?_⟩
    · intro y0 y1 y2
      unfold semantic_compareBuildComponents.j0
      repeat' first
      | (with_reducible exact ih0 _ _ _)
      | (with_reducible exact ih1 _ _ _)
      | (with_reducible exact semantic_removeBuildMetadata.mono _ _)
      | (with_reducible exact semantic_zzSplit.mono _ _ _)
      | (with_reducible exact LeO.refl _)
      | (with_reducible exact LeO.none _)
      | (with_reducible refine LeO.ite ?_ ?_)
      | (with_reducible refine LeO.bind ?_ (fun _ => ?_))
      | exact ih0 _ _ _
      | exact ih1 _ _ _
      | exact semantic_removeBuildMetadata.mono _ _
      | exact semantic_zzSplit.mono _ _ _
      | exact LeO.none _
      | refine LeO.ite ?_ ?_
      | refine LeO.bind ?_ (fun _ => ?_)
    · intro y0 y1 y2
      unfold semantic_compareBuildComponents.j1
      repeat' first
      | (with_reducible exact ih0 _ _ _)
      | (with_reducible exact ih1 _ _ _)
      | (with_reducible exact semantic_removeBuildMetadata.mono _ _)
      | (with_reducible exact semantic_zzSplit.mono _ _ _)
      | (with_reducible exact LeO.refl _)
      | (with_reducible exact LeO.none _)
      | (with_reducible refine LeO.ite ?_ ?_)
      | (with_reducible refine LeO.bind ?_ (fun _ => ?_))
      | exact ih0 _ _ _
      | exact ih1 _ _ _
      | exact semantic_removeBuildMetadata.mono _ _
      | exact semantic_zzSplit.mono _ _ _
      | exact LeO.none _
      | refine LeO.ite ?_ ?_
      | refine LeO.bind ?_ (fun _ => ?_)
theorem semantic_compareBuildComponents.mono : ∀ a0 a1 k, LeO (semantic_compareBuildComponents.f k a0 a1) (semantic_compareBuildComponents.f (k + 1) a0 a1) := by
  intro a0 a1 k
  obtain ⟨ih0, ih1⟩ := semantic_compareBuildComponents.mono_l k
  unfold semantic_compareBuildComponents.f
  repeat' first
      | (with_reducible exact ih0 _ _ _)
      | (with_reducible exact ih1 _ _ _)
      | (with_reducible exact semantic_removeBuildMetadata.mono _ _)
      | (with_reducible exact semantic_zzSplit.mono _ _ _)
      | (with_reducible exact LeO.refl _)
      | (with_reducible exact LeO.none _)
      | (with_reducible refine LeO.ite ?_ ?_)
      | (with_reducible refine LeO.bind ?_ (fun _ => ?_))
      | exact ih0 _ _ _
      | exact ih1 _ _ _
      | exact semantic_removeBuildMetadata.mono _ _
      | exact semantic_zzSplit.mono _ _ _
      | exact LeO.none _
      | refine LeO.ite ?_ ?_
      | refine LeO.bind ?_ (fun _ => ?_)
set_option maxHeartbeats 8000000 in
set_option maxRecDepth 100000 in
theorem semantic_compareBuildComponents.calls (k : Nat) (a0 : ByteArray) (a1 : ByteArray) (r : Int) (w : World) (h : semantic_compareBuildComponents.f k a0 a1 = some r) (hL : Giv.Laid w) :
    Calls Tryd.prog 77 #[.string a0, .string a1] w fun e w' => e = .returned (.int .i64 r) ∧ Below w.heap.size w w' := by
  have HLd := Aside0.mk hL
  clear hL
  have HB := Aside0.mk (Below.refl w.heap.size w)
  have H : ((semantic_removeBuildMetadata.f k a0).bind fun t203 => ((semantic_removeBuildMetadata.f k a1).bind fun t204 => ((strings_TrimPrefix.f t203 (⟨#[45]⟩ : ByteArray)).bind fun t205 => ((strings_TrimPrefix.f t204 (⟨#[45]⟩ : ByteArray)).bind fun t206 => (if t205.toList = ([] : List UInt8) then (semantic_compareBuildComponents.j0 k t205 t206 (t206.toList != ([] : List UInt8))) else (semantic_compareBuildComponents.j0 k t205 t206 false)))))) = some r := h
  clear h
  replace H := Option.bind_eq_some_iff.mp H
  obtain ⟨t203, A30, H⟩ := H
  replace H : ((semantic_removeBuildMetadata.f k a1).bind fun t204 => ((strings_TrimPrefix.f t203 (⟨#[45]⟩ : ByteArray)).bind fun t205 => ((strings_TrimPrefix.f t204 (⟨#[45]⟩ : ByteArray)).bind fun t206 => (if t205.toList = ([] : List UInt8) then (semantic_compareBuildComponents.j0 k t205 t206 (t206.toList != ([] : List UInt8))) else (semantic_compareBuildComponents.j0 k t205 t206 false))))) = some r := H
  have A3 := Aside0.mk A30
  clear A30
  replace H := Option.bind_eq_some_iff.mp H
  obtain ⟨t204, A40, H⟩ := H
  replace H : ((strings_TrimPrefix.f t203 (⟨#[45]⟩ : ByteArray)).bind fun t205 => ((strings_TrimPrefix.f t204 (⟨#[45]⟩ : ByteArray)).bind fun t206 => (if t205.toList = ([] : List UInt8) then (semantic_compareBuildComponents.j0 k t205 t206 (t206.toList != ([] : List UInt8))) else (semantic_compareBuildComponents.j0 k t205 t206 false)))) = some r := H
  have A4 := Aside0.mk A40
  clear A40
  replace H := Option.bind_eq_some_iff.mp H
  obtain ⟨t205, A50, H⟩ := H
  replace H : ((strings_TrimPrefix.f t204 (⟨#[45]⟩ : ByteArray)).bind fun t206 => (if t205.toList = ([] : List UInt8) then (semantic_compareBuildComponents.j0 k t205 t206 (t206.toList != ([] : List UInt8))) else (semantic_compareBuildComponents.j0 k t205 t206 false))) = some r := H
  have A5 := Aside0.mk A50
  clear A50
  replace H := Option.bind_eq_some_iff.mp H
  obtain ⟨t206, A60, H⟩ := H
  replace H : (if t205.toList = ([] : List UInt8) then (semantic_compareBuildComponents.j0 k t205 t206 (t206.toList != ([] : List UInt8))) else (semantic_compareBuildComponents.j0 k t205 t206 false)) = some r := H
  have A6 := Aside0.mk A60
  clear A60
  have HC7 := Aside0.mk H
  clear H
  go_enter Tryd.func77, Tryd.ntmps77
  go_upto_region 5 with (first | ((with_reducible refine gate_callee (f := 92) rfl ?_); refine goesL_ (some 6) rfl rfl Tryd.func92 (by kernel_rfl) rfl #[.string a0] rfl (by (try simp only [List.map_toArray, List.map_cons, List.map_nil]); first | done | rfl | (simp only [List.length_drop, List.length_take]; rfl)) ?_; (with_reducible refine (semantic_removeBuildMetadata.calls k a0 t203 _ A3.out).mono ?_); rintro e w8 ⟨rfl, hb⟩; refine ⟨_, rfl, ?_⟩; have n0_ := Aside0.mk (below_step (by repeat (first | (with_reducible first | exact HB.out | apply below_alloc | apply pw_below_drewN | apply below_drew1) | exact HB.out)) hb); clear HB; have HB := n0_; clear n0_; (try clear hb); (try clear hb2); (try clear hk); (try clear hi)) | ((with_reducible refine gate_callee (f := 92) rfl ?_); refine goesL_ (some 8) rfl rfl Tryd.func92 (by kernel_rfl) rfl #[.string a1] rfl (by (try simp only [List.map_toArray, List.map_cons, List.map_nil]); first | done | rfl | (simp only [List.length_drop, List.length_take]; rfl)) ?_; (with_reducible refine (semantic_removeBuildMetadata.calls k a1 t204 _ A4.out).mono ?_); rintro e w9 ⟨rfl, hb⟩; refine ⟨_, rfl, ?_⟩; have n0_ := Aside0.mk (below_step (by repeat (first | (with_reducible first | exact HB.out | apply below_alloc | apply pw_below_drewN | apply below_drew1) | exact HB.out)) hb); clear HB; have HB := n0_; clear n0_; (try clear hb); (try clear hb2); (try clear hk); (try clear hi)) | ((with_reducible refine gate_callee (f := 93) rfl ?_); refine goesL_ (some 10) rfl rfl Tryd.func93 (by kernel_rfl) rfl #[.string t203, .string (⟨#[45]⟩ : ByteArray)] rfl (by (try simp only [List.map_toArray, List.map_cons, List.map_nil]); first | done | rfl | (simp only [List.length_drop, List.length_take]; rfl)) ?_; (with_reducible refine (strings_TrimPrefix.calls t203 (⟨#[45]⟩ : ByteArray) t205 _ A5.out).mono ?_); rintro e w' ⟨rfl, ⟨nd, rfl⟩⟩; refine ⟨_, rfl, ?_⟩) | ((with_reducible refine gate_callee (f := 93) rfl ?_); refine goesL_ (some 12) rfl rfl Tryd.func93 (by kernel_rfl) rfl #[.string t204, .string (⟨#[45]⟩ : ByteArray)] rfl (by (try simp only [List.map_toArray, List.map_cons, List.map_nil]); first | done | rfl | (simp only [List.length_drop, List.length_take]; rfl)) ?_; (with_reducible refine (strings_TrimPrefix.calls t204 (⟨#[45]⟩ : ByteArray) t206 _ A6.out).mono ?_); rintro e w' ⟨rfl, ⟨nd, rfl⟩⟩; refine ⟨_, rfl, ?_⟩))
  (try simp only [Act.put, List.setIfInBounds_toArray, List.set_cons_zero, List.set_cons_succ])
  go_cut [18] (fun v18 wc => ∃ (kq : Nat) (x18_6 : Bool), v18 = .bool x18_6 ∧ Aside0 (semantic_compareBuildComponents.j0 kq t205 t206 x18_6 = some r) ∧ Aside0 (kq ≤ k) ∧ Aside0 (Below w.heap.size w wc))
  case first =>
    have H := HC7.out
    clear HC7
    by_cases c10 : t205.toList = ([] : List UInt8)
    · rw [if_pos c10] at H
      have c10b0 : (t205.toList == ([] : List UInt8)) = true := beq_iff_eq.mpr c10
      have c10b1 : (t205.toList != ([] : List UInt8)) = false := bne_eq_false_iff_eq.mpr c10
      clear c10
      (first | rw [c10b0] | (simp only [i64_w, i32_w]; rw [c10b0]) | skip)
      have H' := Aside0.mk H
      clear H
      go_wp2
      go_meet
      case rel => exact ⟨_, ((t206.toList != ([] : List UInt8))), (by first | rfl | (simp; done) | (simp [*]; done) | (simp [bne_nil_]; done)), H', ⟨by first | omega | exact Nat.le_refl _⟩, ⟨by repeat (first | (with_reducible first | exact HB.out | apply below_alloc | apply pw_below_drewN | apply below_drew1) | exact HB.out)⟩⟩
    · rw [if_neg c10] at H
      have c10b0 : (t205.toList == ([] : List UInt8)) = false := beq_eq_false_iff_ne.mpr c10
      have c10b1 : (t205.toList != ([] : List UInt8)) = true := bne_iff_ne.mpr c10
      (first | rw [c10b0] | (simp only [i64_w, i32_w]; rw [c10b0]) | skip)
      have H' := Aside0.mk H
      clear H
      go_wp2
      go_meet
      case rel => exact ⟨_, (false), (by first | rfl | (simp; done) | (simp [*]; done) | (simp [bne_nil_]; done)), H', ⟨by first | omega | exact Nat.le_refl _⟩, ⟨by repeat (first | (with_reducible first | exact HB.out | apply below_alloc | apply pw_below_drewN | apply below_drew1) | exact HB.out)⟩⟩
  case rest =>
    clear HC7
    try clear c1
    try clear p2
    try clear c7
    try clear c9
    try clear c10
    try clear c10b0
    try clear c10b1
    obtain ⟨kq, x18_6, rfl, HA, HJ6, HB⟩ := hcut
    cases kq with
    | zero => exact absurd HA.out (by simp [semantic_compareBuildComponents.j0])
    | succ kj6 =>
      have H := HA.out
      clear HA
      simp only [semantic_compareBuildComponents.j0] at H
      by_cases c11 : x18_6 = true
      · subst c11
        have H1 : (some 1) = some r := by rw [if_pos rfl] at H; exact H
        clear H
        have H := H1
        clear H1
        obtain rfl := Option.some.inj H
        go_wp2
        go_ret
        exact ⟨by first | rfl | (simp [errW_none, errW_some] <;> rfl) | (simp [*, errW_none, errW_some] <;> rfl) | (simp [bne_nil_]; done), by repeat (first | (with_reducible first | exact HB.out | apply below_alloc | apply pw_below_drewN | apply below_drew1) | exact HB.out)⟩
      · replace c11 := Bool.eq_false_iff.mpr c11
        subst c11
        have H1 : (if t205.toList = ([] : List UInt8) then (semantic_compareBuildComponents.j1 kj6 t205 t206 false) else (semantic_compareBuildComponents.j1 kj6 t205 t206 (t206.toList == ([] : List UInt8)))) = some r := by rw [if_neg (show ¬ (false = true) by decide)] at H; exact H
        clear H
        have H := H1
        clear H1
        have HC12 := Aside0.mk H
        clear H
        go_upto_region 7 with (fail)
        go_cut [24] (fun v24 wc => ∃ (kq : Nat) (x24_11 : Bool), v24 = .bool x24_11 ∧ Aside0 (semantic_compareBuildComponents.j1 kq t205 t206 x24_11 = some r) ∧ Aside0 (kq ≤ kj6) ∧ Aside0 (Below w.heap.size w wc))
        case first =>
          have H := HC12.out
          clear HC12
          by_cases c13 : t205.toList = ([] : List UInt8)
          · rw [if_pos c13] at H
            have c13b0 : (t205.toList == ([] : List UInt8)) = true := beq_iff_eq.mpr c13
            have c13b1 : (t205.toList != ([] : List UInt8)) = false := bne_eq_false_iff_eq.mpr c13
            clear c13
            (first | rw [c13b0] | (simp only [i64_w, i32_w]; rw [c13b0]) | skip)
            have H' := Aside0.mk H
            clear H
            go_wp2
            go_meet
            case rel => exact ⟨_, (false), (by first | rfl | (simp; done) | (simp [*]; done) | (simp [bne_nil_]; done)), H', ⟨by have := HJ6.out; first | omega | exact Nat.le_refl _⟩, ⟨by repeat (first | (with_reducible first | exact HB.out | apply below_alloc | apply pw_below_drewN | apply below_drew1) | exact HB.out)⟩⟩
          · rw [if_neg c13] at H
            have c13b0 : (t205.toList == ([] : List UInt8)) = false := beq_eq_false_iff_ne.mpr c13
            have c13b1 : (t205.toList != ([] : List UInt8)) = true := bne_iff_ne.mpr c13
            (first | rw [c13b0] | (simp only [i64_w, i32_w]; rw [c13b0]) | skip)
            have H' := Aside0.mk H
            clear H
            go_wp2
            go_meet
            case rel => exact ⟨_, ((t206.toList == ([] : List UInt8))), (by first | rfl | (simp; done) | (simp [*]; done) | (simp [bne_nil_]; done)), H', ⟨by have := HJ6.out; first | omega | exact Nat.le_refl _⟩, ⟨by repeat (first | (with_reducible first | exact HB.out | apply below_alloc | apply pw_below_drewN | apply below_drew1) | exact HB.out)⟩⟩
        case rest =>
          clear HC12
          try clear c1
          try clear p2
          try clear c7
          try clear c9
          try clear c10
          try clear c10b0
          try clear c10b1
          try clear c11
          try clear c13
          try clear c13b0
          try clear c13b1
          try clear p2
          obtain ⟨kq, x24_11, rfl, HA, HJ11, HB⟩ := hcut
          cases kq with
          | zero => exact absurd HA.out (by simp [semantic_compareBuildComponents.j1])
          | succ kj11 =>
            have H := HA.out
            clear HA
            simp only [semantic_compareBuildComponents.j1] at H
            by_cases c14 : x24_11 = true
            · subst c14
              have H1 : (some (-1)) = some r := by rw [if_pos rfl] at H; exact H
              clear H
              have H := H1
              clear H1
              obtain rfl := Option.some.inj H
              go_wp2
              go_ret
              exact ⟨by first | rfl | (simp [errW_none, errW_some] <;> rfl) | (simp [*, errW_none, errW_some] <;> rfl) | (simp [bne_nil_]; done), by repeat (first | (with_reducible first | exact HB.out | apply below_alloc | apply pw_below_drewN | apply below_drew1) | exact HB.out)⟩
            · replace c14 := Bool.eq_false_iff.mpr c14
              subst c14
              have H1 : ((semantic_zzSplit.f kj11 t205 (⟨#[46]⟩ : ByteArray)).bind fun t207 => ((semantic_zzSplit.f kj11 t206 (⟨#[46]⟩ : ByteArray)).bind fun t210 => ((Giv.semantic_compareSemverBuildComponents.f t207 t210).bind fun t213 => (some t213)))) = some r := by rw [if_neg (show ¬ (false = true) by decide)] at H; exact H
              clear H
              have H := H1
              clear H1
              replace H := Option.bind_eq_some_iff.mp H
              obtain ⟨t207, A150, H⟩ := H
              replace H : ((semantic_zzSplit.f kj11 t206 (⟨#[46]⟩ : ByteArray)).bind fun t210 => ((Giv.semantic_compareSemverBuildComponents.f t207 t210).bind fun t213 => (some t213))) = some r := H
              have A15 := Aside0.mk A150
              clear A150
              replace H := Option.bind_eq_some_iff.mp H
              obtain ⟨t210, A160, H⟩ := H
              replace H : ((Giv.semantic_compareSemverBuildComponents.f t207 t210).bind fun t213 => (some t213)) = some r := H
              have A16 := Aside0.mk A160
              clear A160
              replace H := Option.bind_eq_some_iff.mp H
              obtain ⟨t213, A170, H⟩ := H
              replace H : (some t213) = some r := H
              have A17 := Aside0.mk A170
              clear A170
              obtain rfl := Option.some.inj H
              go_wp2_with (first | ((with_reducible refine gate_callee (f := 72) rfl ?_); refine goesL_ (some 26) rfl rfl Tryd.func72 (by kernel_rfl) rfl #[.string t205, .string (⟨#[46]⟩ : ByteArray)] rfl (by (try simp only [List.map_toArray, List.map_cons, List.map_nil]); first | done | rfl | (simp only [List.length_drop, List.length_take]; rfl)) ?_; (with_reducible refine (semantic_zzSplit.calls kj11 t205 (⟨#[46]⟩ : ByteArray) t207 _ A15.out).mono ?_); rintro e w18 ⟨v208, rfl, ho0, hb⟩; refine ⟨_, rfl, ?_⟩; have n0_ := Aside0.mk (Kd.R_lower ho0 (below_size (by repeat (first | (with_reducible first | exact HB.out | apply below_alloc | apply pw_below_drewN | apply below_drew1) | exact HB.out)))); have n1_ := Aside0.mk (below_step (by repeat (first | (with_reducible first | exact HB.out | apply below_alloc | apply pw_below_drewN | apply below_drew1) | exact HB.out)) hb); clear HB; have HO209 := n0_; have HB := n1_; clear n0_ n1_; (try clear hb); (try clear hb2); (try clear hk); (try clear hi); (try clear ho0)) | ((with_reducible refine gate_callee (f := 72) rfl ?_); refine goesL_ (some 28) rfl rfl Tryd.func72 (by kernel_rfl) rfl #[.string t206, .string (⟨#[46]⟩ : ByteArray)] rfl (by (try simp only [List.map_toArray, List.map_cons, List.map_nil]); first | done | rfl | (simp only [List.length_drop, List.length_take]; rfl)) ?_; (with_reducible refine (semantic_zzSplit.calls kj11 t206 (⟨#[46]⟩ : ByteArray) t210 _ A16.out).mono ?_); rintro e w19 ⟨v211, rfl, ho0, hb⟩; refine ⟨_, rfl, ?_⟩; have n0_ := Aside0.mk (Kd.R_elder' (by (with_reducible repeat (first | apply Kd.R_alloc | apply Kd.R_drewN | apply Kd.R_drew)); exact HO209.out) (Kd.R_base ho0) hb); have n1_ := Aside0.mk (Kd.R_lower (Kd.R_new' ho0 (Kd.R_lt (by (with_reducible repeat (first | apply Kd.R_alloc | apply Kd.R_drewN | apply Kd.R_drew)); exact HO209.out))) (below_size (by repeat (first | (with_reducible first | exact HB.out | apply below_alloc | apply pw_below_drewN | apply below_drew1) | exact HB.out)))); have n2_ := Aside0.mk (below_step (by repeat (first | (with_reducible first | exact HB.out | apply below_alloc | apply pw_below_drewN | apply below_drew1) | exact HB.out)) hb); clear HO209; clear HB; have HO209 := n0_; have HO212 := n1_; have HB := n2_; clear n0_ n1_ n2_; (try clear hb); (try clear hb2); (try clear hk); (try clear hi); (try clear ho0); obtain ⟨Ao20, co20, eo20⟩ := Kd.R_slice HO209.out; subst eo20; obtain ⟨Ao21, co21, eo21⟩ := Kd.R_slice HO212.out; subst eo21) | ((with_reducible refine gate_callee (f := 75) rfl ?_); refine goesL_ (some 29) rfl rfl Tryd.func75 (by kernel_rfl) rfl #[.slice Ao20 t207.length co20, .slice Ao21 t210.length co21] rfl (by (try simp only [List.map_toArray, List.map_cons, List.map_nil]); first | done | rfl | (simp only [List.length_drop, List.length_take]; rfl)) ?_; (with_reducible refine (Giv.semantic_compareSemverBuildComponents.calls _ _ t207 _ _ t210 t213 _ ?side1 ?side2 ?side3 ?side4 A17.out (HLd.out.below (by repeat (first | (with_reducible first | exact HB.out | apply below_alloc | apply pw_below_drewN | apply below_drew1) | exact HB.out)))).mono ?_); (case side1 => repeat (first | exact (Kd.R_reads' HO209.out).2.2 | (with_reducible refine Kd.C_alloc ?_ _) | (with_reducible refine Kd.C_drewN ?_ _) | (with_reducible refine Kd.C_drew ?_))); (case side2 => exact (Kd.R_reads' HO209.out).2.1); (case side3 => repeat (first | exact (Kd.R_reads' HO212.out).2.2 | (with_reducible refine Kd.C_alloc ?_ _) | (with_reducible refine Kd.C_drewN ?_ _) | (with_reducible refine Kd.C_drew ?_))); (case side4 => exact (Kd.R_reads' HO212.out).2.1); rintro e w22 ⟨rfl, hb⟩; refine ⟨_, rfl, ?_⟩; have n0_ := Aside0.mk (Kd.R_below (by (with_reducible repeat (first | apply Kd.R_alloc | apply Kd.R_drewN | apply Kd.R_drew)); exact HO209.out) hb); have n1_ := Aside0.mk (Kd.R_below (by (with_reducible repeat (first | apply Kd.R_alloc | apply Kd.R_drewN | apply Kd.R_drew)); exact HO212.out) hb); have n2_ := Aside0.mk (below_step (by repeat (first | (with_reducible first | exact HB.out | apply below_alloc | apply pw_below_drewN | apply below_drew1) | exact HB.out)) hb); clear HO209; clear HO212; clear HB; have HO209 := n0_; have HO212 := n1_; have HB := n2_; clear n0_ n1_ n2_; (try clear hb); (try clear hb2); (try clear hk); (try clear hi)))
              go_ret
              exact ⟨by first | rfl | (simp [errW_none, errW_some] <;> rfl) | (simp [*, errW_none, errW_some] <;> rfl) | (simp [bne_nil_]; done), by repeat (first | (with_reducible first | exact HB.out | apply below_alloc | apply pw_below_drewN | apply below_drew1) | exact HB.out)⟩

/-! ### semantic_ZZBuilds: function 63 -/
def semantic_ZZBuilds.f (k : Nat) (a0 : ByteArray) (a1 : ByteArray) : Option (Int) := (semantic_compareBuildComponents.f k a0 a1).bind fun t214 => (some t214)
theorem semantic_ZZBuilds.mono : ∀ a0 a1 k, LeO (semantic_ZZBuilds.f k a0 a1) (semantic_ZZBuilds.f (k + 1) a0 a1) := by
  intro a0 a1 k
  unfold semantic_ZZBuilds.f
  repeat' first
      | (with_reducible exact semantic_compareBuildComponents.mono _ _ _)
      | (with_reducible exact LeO.refl _)
      | (with_reducible exact LeO.none _)
      | (with_reducible refine LeO.ite ?_ ?_)
      | (with_reducible refine LeO.bind ?_ (fun _ => ?_))
      | exact semantic_compareBuildComponents.mono _ _ _
      | exact LeO.none _
      | refine LeO.ite ?_ ?_
      | refine LeO.bind ?_ (fun _ => ?_)
set_option maxHeartbeats 8000000 in
set_option maxRecDepth 100000 in
theorem semantic_ZZBuilds.calls (k : Nat) (a0 : ByteArray) (a1 : ByteArray) (r : Int) (w : World) (h : semantic_ZZBuilds.f k a0 a1 = some r) (hL : Giv.Laid w) :
    Calls Tryd.prog 63 #[.string a0, .string a1] w fun e w' => e = .returned (.int .i64 r) ∧ Below w.heap.size w w' := by
  have HLd := Aside0.mk hL
  clear hL
  have HB := Aside0.mk (Below.refl w.heap.size w)
  have H : ((semantic_compareBuildComponents.f k a0 a1).bind fun t214 => (some t214)) = some r := h
  clear h
  replace H := Option.bind_eq_some_iff.mp H
  obtain ⟨t214, A30, H⟩ := H
  replace H : (some t214) = some r := H
  have A3 := Aside0.mk A30
  clear A30
  obtain rfl := Option.some.inj H
  go_enter Tryd.func63, Tryd.ntmps63
  go_wp2_with (first | ((with_reducible refine gate_callee (f := 77) rfl ?_); refine goesL_ (some 7) rfl rfl Tryd.func77 (by kernel_rfl) rfl #[.string a0, .string a1] rfl (by (try simp only [List.map_toArray, List.map_cons, List.map_nil]); first | done | rfl | (simp only [List.length_drop, List.length_take]; rfl)) ?_; (with_reducible refine (semantic_compareBuildComponents.calls k a0 a1 t214 _ A3.out (HLd.out.below (by repeat (first | (with_reducible first | exact HB.out | apply below_alloc | apply pw_below_drewN | apply below_drew1) | exact HB.out)))).mono ?_); rintro e w4 ⟨rfl, hb⟩; refine ⟨_, rfl, ?_⟩; have n0_ := Aside0.mk (below_step (by repeat (first | (with_reducible first | exact HB.out | apply below_alloc | apply pw_below_drewN | apply below_drew1) | exact HB.out)) hb); clear HB; have HB := n0_; clear n0_; (try clear hb); (try clear hb2); (try clear hk); (try clear hi)))
  go_ret
  exact ⟨by first | rfl | (simp [errW_none, errW_some] <;> rfl) | (simp [*, errW_none, errW_some] <;> rfl) | (simp [bne_nil_]; done), by repeat (first | (with_reducible first | exact HB.out | apply below_alloc | apply pw_below_drewN | apply below_drew1) | exact HB.out)⟩

/-! ### impl_Builds: function 39 -/
def impl_Builds.f (k : Nat) (a0 : ByteArray) (a1 : ByteArray) : Option (Int) := (semantic_ZZBuilds.f k a0 a1).bind fun t215 => (some t215)
theorem impl_Builds.mono : ∀ a0 a1 k, LeO (impl_Builds.f k a0 a1) (impl_Builds.f (k + 1) a0 a1) := by
  intro a0 a1 k
  unfold impl_Builds.f
  repeat' first
      | (with_reducible exact semantic_ZZBuilds.mono _ _ _)
      | (with_reducible exact LeO.refl _)
      | (with_reducible exact LeO.none _)
      | (with_reducible refine LeO.ite ?_ ?_)
      | (with_reducible refine LeO.bind ?_ (fun _ => ?_))
      | exact semantic_ZZBuilds.mono _ _ _
      | exact LeO.none _
      | refine LeO.ite ?_ ?_
      | refine LeO.bind ?_ (fun _ => ?_)
set_option maxHeartbeats 8000000 in
set_option maxRecDepth 100000 in
theorem impl_Builds.calls (k : Nat) (a0 : ByteArray) (a1 : ByteArray) (r : Int) (w : World) (h : impl_Builds.f k a0 a1 = some r) (hL : Giv.Laid w) :
    Calls Tryd.prog 39 #[.string a0, .string a1] w fun e w' => e = .returned (.int .i64 r) ∧ Below w.heap.size w w' := by
  have HLd := Aside0.mk hL
  clear hL
  have HB := Aside0.mk (Below.refl w.heap.size w)
  have H : ((semantic_ZZBuilds.f k a0 a1).bind fun t215 => (some t215)) = some r := h
  clear h
  replace H := Option.bind_eq_some_iff.mp H
  obtain ⟨t215, A30, H⟩ := H
  replace H : (some t215) = some r := H
  have A3 := Aside0.mk A30
  clear A30
  obtain rfl := Option.some.inj H
  go_enter Tryd.func39, Tryd.ntmps39
  go_wp2_with (first | ((with_reducible refine gate_callee (f := 63) rfl ?_); refine goesL_ (some 7) rfl rfl Tryd.func63 (by kernel_rfl) rfl #[.string a0, .string a1] rfl (by (try simp only [List.map_toArray, List.map_cons, List.map_nil]); first | done | rfl | (simp only [List.length_drop, List.length_take]; rfl)) ?_; (with_reducible refine (semantic_ZZBuilds.calls k a0 a1 t215 _ A3.out (HLd.out.below (by repeat (first | (with_reducible first | exact HB.out | apply below_alloc | apply pw_below_drewN | apply below_drew1) | exact HB.out)))).mono ?_); rintro e w4 ⟨rfl, hb⟩; refine ⟨_, rfl, ?_⟩; have n0_ := Aside0.mk (below_step (by repeat (first | (with_reducible first | exact HB.out | apply below_alloc | apply pw_below_drewN | apply below_drew1) | exact HB.out)) hb); clear HB; have HB := n0_; clear n0_; (try clear hb); (try clear hb2); (try clear hk); (try clear hi)))
  go_ret
  exact ⟨by first | rfl | (simp [errW_none, errW_some] <;> rfl) | (simp [*, errW_none, errW_some] <;> rfl) | (simp [bne_nil_]; done), by repeat (first | (with_reducible first | exact HB.out | apply below_alloc | apply pw_below_drewN | apply below_drew1) | exact HB.out)⟩

/-! ### laws_wordsAwake: function 37 -/
def laws_wordsAwake.f (k : Nat)  : Option (Bool) := (impl_Identifiers.f (([(⟨#[97]⟩ : ByteArray)] : List ByteArray)) (([(⟨#[98]⟩ : ByteArray)] : List ByteArray))).bind fun t222 => (if t222 = (-1) then ((impl_Builds.f k (⟨#[45, 97]⟩ : ByteArray) (⟨#[45, 98]⟩ : ByteArray)).bind fun t223 => (some (t223 == (-1)))) else (some false))
theorem laws_wordsAwake.mono : ∀ k, LeO (laws_wordsAwake.f k ) (laws_wordsAwake.f (k + 1) ) := by
  intro  k
  unfold laws_wordsAwake.f
  repeat' first
      | (with_reducible exact impl_Builds.mono _ _ _)
      | (with_reducible exact LeO.refl _)
      | (with_reducible exact LeO.none _)
      | (with_reducible refine LeO.ite ?_ ?_)
      | (with_reducible refine LeO.bind ?_ (fun _ => ?_))
      | exact impl_Builds.mono _ _ _
      | exact LeO.none _
      | refine LeO.ite ?_ ?_
      | refine LeO.bind ?_ (fun _ => ?_)
set_option maxHeartbeats 8000000 in
set_option maxRecDepth 100000 in
theorem laws_wordsAwake.calls (k : Nat)  (r : Bool) (w : World) (h : laws_wordsAwake.f k  = some r) (hL : Giv.Laid w) :
    Calls Tryd.prog 37 #[] w fun e w' => e = .returned (.bool r) ∧ Below w.heap.size w w' := by
  have HLd := Aside0.mk hL
  clear hL
  have HB := Aside0.mk (Below.refl w.heap.size w)
  have H : ((impl_Identifiers.f (([(⟨#[97]⟩ : ByteArray)] : List ByteArray)) (([(⟨#[98]⟩ : ByteArray)] : List ByteArray))).bind fun t222 => (if t222 = (-1) then ((impl_Builds.f k (⟨#[45, 97]⟩ : ByteArray) (⟨#[45, 98]⟩ : ByteArray)).bind fun t223 => (some (t223 == (-1)))) else (some false))) = some r := h
  clear h
  obtain ⟨y216, hy216⟩ : ∃ y_ : List ByteArray, y_ = (([(⟨#[97]⟩ : ByteArray)] : List ByteArray)) := ⟨_, rfl⟩
  replace H : ((impl_Identifiers.f y216 (([(⟨#[98]⟩ : ByteArray)] : List ByteArray))).bind fun t222 => (if t222 = (-1) then ((impl_Builds.f k (⟨#[45, 97]⟩ : ByteArray) (⟨#[45, 98]⟩ : ByteArray)).bind fun t223 => (some (t223 == (-1)))) else (some false))) = some r := by first | (rw [hy216]; with_reducible exact H) | (have H2_ := (Option.bind_some _ _).symm.trans H; rw [hy216]; with_reducible exact H2_) | (have H2_ := (Option.bind_some _ _).symm.trans H; with_reducible exact H2_) | with_reducible exact H | (rw [hy216]; exact H) | exact H
  have Ny216 := Aside0.mk hy216
  clear hy216
  obtain ⟨y219, hy219⟩ : ∃ y_ : List ByteArray, y_ = (([(⟨#[98]⟩ : ByteArray)] : List ByteArray)) := ⟨_, rfl⟩
  replace H : ((impl_Identifiers.f y216 y219).bind fun t222 => (if t222 = (-1) then ((impl_Builds.f k (⟨#[45, 97]⟩ : ByteArray) (⟨#[45, 98]⟩ : ByteArray)).bind fun t223 => (some (t223 == (-1)))) else (some false))) = some r := by first | (rw [hy219]; with_reducible exact H) | (have H2_ := (Option.bind_some _ _).symm.trans H; rw [hy219]; with_reducible exact H2_) | (have H2_ := (Option.bind_some _ _).symm.trans H; with_reducible exact H2_) | with_reducible exact H | (rw [hy219]; exact H) | exact H
  have Ny219 := Aside0.mk hy219
  clear hy219
  replace H := Option.bind_eq_some_iff.mp H
  obtain ⟨t222, A10, H⟩ := H
  replace H : (if t222 = (-1) then ((impl_Builds.f k (⟨#[45, 97]⟩ : ByteArray) (⟨#[45, 98]⟩ : ByteArray)).bind fun t223 => (some (t223 == (-1)))) else (some false)) = some r := H
  have A1 := Aside0.mk A10
  clear A10
  by_cases c2 : t222 = (-1)
  · rw [if_pos c2] at H
    have c2b0 : (t222 == (-1)) = true := beq_iff_eq.mpr c2
    have c2b1 : (t222 != (-1)) = false := bne_eq_false_iff_eq.mpr c2
    clear c2
    replace H := Option.bind_eq_some_iff.mp H
    obtain ⟨t223, A30, H⟩ := H
    replace H : (some (t223 == (-1))) = some r := H
    have A3 := Aside0.mk A30
    clear A30
    obtain rfl := Option.some.inj H
    go_enter Tryd.func37, Tryd.ntmps37
    go_wp2_with (first | ((with_reducible refine gate_dst (N := 1) rfl ?_); refine Kd.R_lit Kd.string _ 9 ?hg (N := 1) ?hd (xs := ([(⟨#[97]⟩ : ByteArray)] : List ByteArray)) (inner := [.string (⟨#[97]⟩ : ByteArray)]) (ok := fun _ => True) (okp := fun _ => True) ?hr ?hp (fun _ hk => hk) trivial (Below.refl _ _) (Nat.le_refl _) (by simp) ?_; (case hd => rfl); (case hg => rfl); (case hr => first | (go_simp; done) | (go_simp; rfl)); (case hp => exact (Reps.one (show Kd.M Kd.string _ _ _ (⟨#[97]⟩ : ByteArray) [.string (⟨#[97]⟩ : ByteArray)] from rfl) (Reps.none _ _))); intro v217 w4 ho5 hb hg_ hnew_; clear hg_ hnew_; (first | rw [← Ny216.out] at ho5 | (simp only [Int.reduceToNat] at ho5; rw [← Ny216.out] at ho5)); have n0_ := Aside0.mk (Kd.R_lower ho5 (below_size (by repeat (first | (with_reducible first | exact HB.out | apply below_alloc | apply pw_below_drewN | apply below_drew1) | exact HB.out)))); have n1_ := Aside0.mk (below_step (by repeat (first | (with_reducible first | exact HB.out | apply below_alloc | apply pw_below_drewN | apply below_drew1) | exact HB.out)) hb); clear HB; have HO218 := n0_; have HB := n1_; clear n0_ n1_; clear hb ho5) | ((with_reducible refine gate_dst (N := 2) rfl ?_); refine Kd.R_lit Kd.string _ 9 ?hg (N := 2) ?hd (xs := ([(⟨#[98]⟩ : ByteArray)] : List ByteArray)) (inner := [.string (⟨#[98]⟩ : ByteArray)]) (ok := fun _ => True) (okp := fun _ => True) ?hr ?hp (fun _ hk => hk) trivial (Below.refl _ _) (Nat.le_refl _) (by simp) ?_; (case hd => rfl); (case hg => rfl); (case hr => first | (go_simp; done) | (go_simp; rfl)); (case hp => exact (Reps.one (show Kd.M Kd.string _ _ _ (⟨#[98]⟩ : ByteArray) [.string (⟨#[98]⟩ : ByteArray)] from rfl) (Reps.none _ _))); intro v220 w6 ho7 hb hg_ hnew_; clear hg_ hnew_; (first | rw [← Ny219.out] at ho7 | (simp only [Int.reduceToNat] at ho7; rw [← Ny219.out] at ho7)); have n0_ := Aside0.mk (Kd.R_elder' (by (with_reducible repeat (first | apply Kd.R_alloc | apply Kd.R_drewN | apply Kd.R_drew)); exact HO218.out) (Kd.R_base ho7) hb); have n1_ := Aside0.mk (Kd.R_lower (Kd.R_new' ho7 (Kd.R_lt (by (with_reducible repeat (first | apply Kd.R_alloc | apply Kd.R_drewN | apply Kd.R_drew)); exact HO218.out))) (below_size (by repeat (first | (with_reducible first | exact HB.out | apply below_alloc | apply pw_below_drewN | apply below_drew1) | exact HB.out)))); have n2_ := Aside0.mk (below_step (by repeat (first | (with_reducible first | exact HB.out | apply below_alloc | apply pw_below_drewN | apply below_drew1) | exact HB.out)) hb); clear HO218; clear HB; have HO218 := n0_; have HO221 := n1_; have HB := n2_; clear n0_ n1_ n2_; clear hb ho7; obtain ⟨Ao8, co8, eo8⟩ := Kd.R_slice HO218.out; subst eo8; obtain ⟨Ao9, co9, eo9⟩ := Kd.R_slice HO221.out; subst eo9) | ((with_reducible refine gate_callee (f := 36) rfl ?_); refine goesL_ (some 3) rfl rfl Tryd.func36 (by kernel_rfl) rfl #[.slice Ao8 y216.length co8, .slice Ao9 y219.length co9] rfl (by (try simp only [List.map_toArray, List.map_cons, List.map_nil]); first | done | rfl | (simp only [List.length_drop, List.length_take]; rfl)) ?_; (with_reducible refine (impl_Identifiers.calls _ _ y216 _ _ y219 t222 _ ?side1 ?side2 ?side3 ?side4 A1.out (HLd.out.below (by repeat (first | (with_reducible first | exact HB.out | apply below_alloc | apply pw_below_drewN | apply below_drew1) | exact HB.out)))).mono ?_); (case side1 => repeat (first | exact (Kd.R_reads' HO218.out).2.2 | (with_reducible refine Kd.C_alloc ?_ _) | (with_reducible refine Kd.C_drewN ?_ _) | (with_reducible refine Kd.C_drew ?_))); (case side2 => exact (Kd.R_reads' HO218.out).2.1); (case side3 => repeat (first | exact (Kd.R_reads' HO221.out).2.2 | (with_reducible refine Kd.C_alloc ?_ _) | (with_reducible refine Kd.C_drewN ?_ _) | (with_reducible refine Kd.C_drew ?_))); (case side4 => exact (Kd.R_reads' HO221.out).2.1); rintro e w10 ⟨rfl, hb⟩; refine ⟨_, rfl, ?_⟩; have n0_ := Aside0.mk (Kd.R_below (by (with_reducible repeat (first | apply Kd.R_alloc | apply Kd.R_drewN | apply Kd.R_drew)); exact HO218.out) hb); have n1_ := Aside0.mk (Kd.R_below (by (with_reducible repeat (first | apply Kd.R_alloc | apply Kd.R_drewN | apply Kd.R_drew)); exact HO221.out) hb); have n2_ := Aside0.mk (below_step (by repeat (first | (with_reducible first | exact HB.out | apply below_alloc | apply pw_below_drewN | apply below_drew1) | exact HB.out)) hb); clear HO218; clear HO221; clear HB; have HO218 := n0_; have HO221 := n1_; have HB := n2_; clear n0_ n1_ n2_; (try clear hb); (try clear hb2); (try clear hk); (try clear hi)) | (go_at_call 39; (with_reducible refine (impl_Builds.calls k (⟨#[45, 97]⟩ : ByteArray) (⟨#[45, 98]⟩ : ByteArray) t223 _ A3.out (HLd.out.below (by repeat (first | (with_reducible first | exact HB.out | apply below_alloc | apply pw_below_drewN | apply below_drew1) | exact HB.out)))).mono ?_); rintro e w11 ⟨rfl, hb⟩; have n0_ := Aside0.mk (Kd.R_below (by (with_reducible repeat (first | apply Kd.R_alloc | apply Kd.R_drewN | apply Kd.R_drew)); exact HO218.out) hb); have n1_ := Aside0.mk (Kd.R_below (by (with_reducible repeat (first | apply Kd.R_alloc | apply Kd.R_drewN | apply Kd.R_drew)); exact HO221.out) hb); have n2_ := Aside0.mk (below_step (by repeat (first | (with_reducible first | exact HB.out | apply below_alloc | apply pw_below_drewN | apply below_drew1) | exact HB.out)) hb); clear HO218; clear HO221; clear HB; have HO218 := n0_; have HO221 := n1_; have HB := n2_; clear n0_ n1_ n2_; (try clear hb); (try clear hb2); (try clear hk); (try clear hi)))
    go_ret
    exact ⟨by first | rfl | (simp [errW_none, errW_some] <;> rfl) | (simp [*, errW_none, errW_some] <;> rfl) | (simp [bne_nil_]; done), by repeat (first | (with_reducible first | exact HB.out | apply below_alloc | apply pw_below_drewN | apply below_drew1) | exact HB.out)⟩
  · rw [if_neg c2] at H
    have c2b0 : (t222 == (-1)) = false := beq_eq_false_iff_ne.mpr c2
    have c2b1 : (t222 != (-1)) = true := bne_iff_ne.mpr c2
    obtain rfl := Option.some.inj H
    go_enter Tryd.func37, Tryd.ntmps37
    go_wp2_with (first | ((with_reducible refine gate_dst (N := 1) rfl ?_); refine Kd.R_lit Kd.string _ 9 ?hg (N := 1) ?hd (xs := ([(⟨#[97]⟩ : ByteArray)] : List ByteArray)) (inner := [.string (⟨#[97]⟩ : ByteArray)]) (ok := fun _ => True) (okp := fun _ => True) ?hr ?hp (fun _ hk => hk) trivial (Below.refl _ _) (Nat.le_refl _) (by simp) ?_; (case hd => rfl); (case hg => rfl); (case hr => first | (go_simp; done) | (go_simp; rfl)); (case hp => exact (Reps.one (show Kd.M Kd.string _ _ _ (⟨#[97]⟩ : ByteArray) [.string (⟨#[97]⟩ : ByteArray)] from rfl) (Reps.none _ _))); intro v217 w12 ho13 hb hg_ hnew_; clear hg_ hnew_; (first | rw [← Ny216.out] at ho13 | (simp only [Int.reduceToNat] at ho13; rw [← Ny216.out] at ho13)); have n0_ := Aside0.mk (Kd.R_lower ho13 (below_size (by repeat (first | (with_reducible first | exact HB.out | apply below_alloc | apply pw_below_drewN | apply below_drew1) | exact HB.out)))); have n1_ := Aside0.mk (below_step (by repeat (first | (with_reducible first | exact HB.out | apply below_alloc | apply pw_below_drewN | apply below_drew1) | exact HB.out)) hb); clear HB; have HO218 := n0_; have HB := n1_; clear n0_ n1_; clear hb ho13) | ((with_reducible refine gate_dst (N := 2) rfl ?_); refine Kd.R_lit Kd.string _ 9 ?hg (N := 2) ?hd (xs := ([(⟨#[98]⟩ : ByteArray)] : List ByteArray)) (inner := [.string (⟨#[98]⟩ : ByteArray)]) (ok := fun _ => True) (okp := fun _ => True) ?hr ?hp (fun _ hk => hk) trivial (Below.refl _ _) (Nat.le_refl _) (by simp) ?_; (case hd => rfl); (case hg => rfl); (case hr => first | (go_simp; done) | (go_simp; rfl)); (case hp => exact (Reps.one (show Kd.M Kd.string _ _ _ (⟨#[98]⟩ : ByteArray) [.string (⟨#[98]⟩ : ByteArray)] from rfl) (Reps.none _ _))); intro v220 w14 ho15 hb hg_ hnew_; clear hg_ hnew_; (first | rw [← Ny219.out] at ho15 | (simp only [Int.reduceToNat] at ho15; rw [← Ny219.out] at ho15)); have n0_ := Aside0.mk (Kd.R_elder' (by (with_reducible repeat (first | apply Kd.R_alloc | apply Kd.R_drewN | apply Kd.R_drew)); exact HO218.out) (Kd.R_base ho15) hb); have n1_ := Aside0.mk (Kd.R_lower (Kd.R_new' ho15 (Kd.R_lt (by (with_reducible repeat (first | apply Kd.R_alloc | apply Kd.R_drewN | apply Kd.R_drew)); exact HO218.out))) (below_size (by repeat (first | (with_reducible first | exact HB.out | apply below_alloc | apply pw_below_drewN | apply below_drew1) | exact HB.out)))); have n2_ := Aside0.mk (below_step (by repeat (first | (with_reducible first | exact HB.out | apply below_alloc | apply pw_below_drewN | apply below_drew1) | exact HB.out)) hb); clear HO218; clear HB; have HO218 := n0_; have HO221 := n1_; have HB := n2_; clear n0_ n1_ n2_; clear hb ho15; obtain ⟨Ao16, co16, eo16⟩ := Kd.R_slice HO218.out; subst eo16; obtain ⟨Ao17, co17, eo17⟩ := Kd.R_slice HO221.out; subst eo17) | ((with_reducible refine gate_callee (f := 36) rfl ?_); refine goesL_ (some 3) rfl rfl Tryd.func36 (by kernel_rfl) rfl #[.slice Ao16 y216.length co16, .slice Ao17 y219.length co17] rfl (by (try simp only [List.map_toArray, List.map_cons, List.map_nil]); first | done | rfl | (simp only [List.length_drop, List.length_take]; rfl)) ?_; (with_reducible refine (impl_Identifiers.calls _ _ y216 _ _ y219 t222 _ ?side1 ?side2 ?side3 ?side4 A1.out (HLd.out.below (by repeat (first | (with_reducible first | exact HB.out | apply below_alloc | apply pw_below_drewN | apply below_drew1) | exact HB.out)))).mono ?_); (case side1 => repeat (first | exact (Kd.R_reads' HO218.out).2.2 | (with_reducible refine Kd.C_alloc ?_ _) | (with_reducible refine Kd.C_drewN ?_ _) | (with_reducible refine Kd.C_drew ?_))); (case side2 => exact (Kd.R_reads' HO218.out).2.1); (case side3 => repeat (first | exact (Kd.R_reads' HO221.out).2.2 | (with_reducible refine Kd.C_alloc ?_ _) | (with_reducible refine Kd.C_drewN ?_ _) | (with_reducible refine Kd.C_drew ?_))); (case side4 => exact (Kd.R_reads' HO221.out).2.1); rintro e w18 ⟨rfl, hb⟩; refine ⟨_, rfl, ?_⟩; have n0_ := Aside0.mk (Kd.R_below (by (with_reducible repeat (first | apply Kd.R_alloc | apply Kd.R_drewN | apply Kd.R_drew)); exact HO218.out) hb); have n1_ := Aside0.mk (Kd.R_below (by (with_reducible repeat (first | apply Kd.R_alloc | apply Kd.R_drewN | apply Kd.R_drew)); exact HO221.out) hb); have n2_ := Aside0.mk (below_step (by repeat (first | (with_reducible first | exact HB.out | apply below_alloc | apply pw_below_drewN | apply below_drew1) | exact HB.out)) hb); clear HO218; clear HO221; clear HB; have HO218 := n0_; have HO221 := n1_; have HB := n2_; clear n0_ n1_ n2_; (try clear hb); (try clear hb2); (try clear hk); (try clear hi)))
    go_ret
    exact ⟨by first | rfl | (simp [errW_none, errW_some] <;> rfl) | (simp [*, errW_none, errW_some] <;> rfl) | (simp [bne_nil_]; done), by repeat (first | (with_reducible first | exact HB.out | apply below_alloc | apply pw_below_drewN | apply below_drew1) | exact HB.out)⟩

end Go.Proofs.YtfgechefinijbaaDoor.QR
