-- Written by a working copy of the kit's print program, turned at a few places by wip/tool/mkprint.py. Lean checks it.
import Derived.Test.YtojabknjniihmabDoorQEx0
namespace Go.Proofs.YtojabknjniihmabDoor.QE
open Go.RowKit Go.Proofs.YtojabknjniihmabDoorW.PrintWords Go.Proofs.YtojabknjniihmabDoorW.PrintLast Go.Proofs.YtojabknjniihmabDoorW.PrintMore
attribute [local go_sem] max2_int min2_int max_two min_two max_three min_three max_four min_four   -- for this text's walks alone
set_option linter.unusedVariables false
set_option linter.unusedSimpArgs false

/-! ### laws_short: function 7 -/
def laws_short.l0 : Nat → List ByteArray → List ByteArray → Int → Int → Option (Bool)
  | 0, _, _, _, _ => none
  | k + 1, x0, x5, x6, x7 => if x7 < x6 then (if 0 ≤ x7 then (if x7 < (x5.length : Int) then (if ((rdOf ByteArray.empty x5 x7).size : Int) > 1500 then (some false) else (laws_short.l0 k x0 x5 x6 (wrap64 (x7 + 1)))) else (none)) else (none)) else (some (decide ((x0.length : Int) ≤ 150)))
def laws_short.f (k : Nat) (l0 : List ByteArray) : Option (Bool) := laws_short.l0 k l0 l0 (l0.length : Int) 0
theorem laws_short.mono_l : ∀ k, (∀ y0 y1 y2 y3, LeO (laws_short.l0 k y0 y1 y2 y3) (laws_short.l0 (k + 1) y0 y1 y2 y3))
  | 0 => fun _ _ _ _ r h => by simp [laws_short.l0] at h
  | k + 1 => by
    have ih0 := laws_short.mono_l k
    · intro y0 y1 y2 y3
      unfold laws_short.l0
      repeat' first
      | (with_reducible exact ih0 _ _ _ _)
      | (with_reducible exact LeO.refl _)
      | (with_reducible exact LeO.none _)
      | (with_reducible refine LeO.ite ?_ ?_)
      | (with_reducible refine LeO.bind ?_ (fun _ => ?_))
      | exact ih0 _ _ _ _
      | exact LeO.none _
      | refine LeO.ite ?_ ?_
      | refine LeO.bind ?_ (fun _ => ?_)
theorem laws_short.mono : ∀ a0 k, LeO (laws_short.f k a0) (laws_short.f (k + 1) a0) := by
  intro a0 k
  have ih0 := laws_short.mono_l k
  unfold laws_short.f
  repeat' first
      | (with_reducible exact ih0 _ _ _ _)
      | (with_reducible exact LeO.refl _)
      | (with_reducible exact LeO.none _)
      | (with_reducible refine LeO.ite ?_ ?_)
      | (with_reducible refine LeO.bind ?_ (fun _ => ?_))
      | exact ih0 _ _ _ _
      | exact LeO.none _
      | refine LeO.ite ?_ ?_
      | refine LeO.bind ?_ (fun _ => ?_)
set_option maxHeartbeats 8000000 in
set_option maxRecDepth 100000 in
theorem laws_short.calls (k : Nat) (A0 : Option Addr) (c0 : Nat) (l0 : List ByteArray) (r : Bool) (w : World) (hr0 : Kd.C Kd.string w A0 l0.length l0) (hc0 : l0.length ≤ c0) (h : laws_short.f k l0 = some r) :
    Calls Tryd.prog 7 #[.slice A0 l0.length c0] w fun e w' => e = .returned (.bool r) ∧ Drawn0 w w' := by
  have HR0 := Aside0.mk hr0
  have HC0 := Aside0.mk hc0
  clear hr0 hc0
  have H : (laws_short.l0 k l0 l0 (l0.length : Int) 0) = some r := h
  clear h
  have H' := Aside0.mk H
  clear H
  go_enter Tryd.func7, Tryd.ntmps7
  go_wp2
  go_loopg [7] k (fun kq v7 w' => ∃ (x7_1 : Int), v7 = .int .i64 x7_1 ∧ Aside0 (laws_short.l0 kq l0 l0 (l0.length : Int) x7_1 = some r) ∧ Aside0 (kq ≤ k) ∧ Drawn0 w w')
  case atStart => exact ⟨(0), (by first | rfl | (simp; done) | (simp [*]; done) | (simp [bne_nil_]; done)), H', ⟨Nat.le_refl _⟩, by repeat (first | exact Drawn0.refl _ | apply Drawn0.step)⟩
  case round =>
    clear H'
    obtain ⟨x7_1, rfl, HA, HK1, ⟨m1, rfl⟩⟩ := hrel
    cases gk with
    | zero => exact absurd HA.out (by simp [laws_short.l0])
    | succ k1 =>
      have H := HA.out
      clear HA
      simp only [laws_short.l0] at H
      by_cases c2 : x7_1 < (l0.length : Int)
      · rw [if_pos c2] at H
        have c2b0 : decide (x7_1 < (l0.length : Int)) = true := decide_eq_true c2
        clear c2
        by_cases c3 : 0 ≤ x7_1
        · rw [if_pos c3] at H
          have c3b0 : decide (0 ≤ x7_1) = true := decide_eq_true c3
          clear c3
          by_cases c4 : x7_1 < (l0.length : Int)
          · rw [if_pos c4] at H
            have c4b0 : decide (x7_1 < (l0.length : Int)) = true := decide_eq_true c4
            clear c4
            by_cases c5 : ((rdOf ByteArray.empty l0 x7_1).size : Int) > 1500
            · rw [if_pos c5] at H
              have c5b0 : decide (1500 < ((rdOf ByteArray.empty l0 x7_1).size : Int)) = true := decide_eq_true c5
              have c5b1 : decide (1500 < (rdOf ByteArray.empty l0 x7_1).size) = true := decide_eq_true (by omega)
              clear c5
              obtain rfl := Option.some.inj H
              have p101 : 0 ≤ (x7_1 : Int) := of_decide_eq_true (by first | (with_reducible assumption) | assumption)
              have q101 : x7_1 < (l0.length : Int) := of_decide_eq_true (by first | (with_reducible assumption) | assumption)
              obtain ⟨ad101, e101, hx101_0⟩ := Kd.at_string HR0.out x7_1 p101 q101
              cases e101
              replace p101 := eq_true p101
              replace q101 := eq_true q101
              go_wp2
              go_ret
              exact ⟨by first | rfl | (simp; done) | (simp [*]; done) | (simp [bne_nil_]; done), by repeat (first | exact Drawn0.refl _ | apply Drawn0.step)⟩
            · rw [if_neg c5] at H
              have c5b0 : decide (1500 < ((rdOf ByteArray.empty l0 x7_1).size : Int)) = false := decide_eq_false c5
              have c5b1 : decide (1500 < (rdOf ByteArray.empty l0 x7_1).size) = false := decide_eq_false (by omega)
              clear c5
              have H' := Aside0.mk H
              clear H
              have p101 : 0 ≤ (x7_1 : Int) := of_decide_eq_true (by first | (with_reducible assumption) | assumption)
              have q101 : x7_1 < (l0.length : Int) := of_decide_eq_true (by first | (with_reducible assumption) | assumption)
              obtain ⟨ad101, e101, hx101_0⟩ := Kd.at_string HR0.out x7_1 p101 q101
              cases e101
              replace p101 := eq_true p101
              replace q101 := eq_true q101
              go_wp2
              go_roundg k1
              case measure => have := HK1.out; omega
              case rel => exact ⟨(wrap64 (x7_1 + 1)), (by first | rfl | (simp; done) | (simp [*]; done) | (simp [bne_nil_]; done)), H', ⟨by have := HK1.out; omega⟩, by repeat (first | exact Drawn0.refl _ | apply Drawn0.step)⟩
          · rw [if_neg c4] at H
            exact absurd H (by simp)
        · rw [if_neg c3] at H
          exact absurd H (by simp)
      · rw [if_neg c2] at H
        have c2b0 : decide (x7_1 < (l0.length : Int)) = false := decide_eq_false c2
        clear c2
        obtain rfl := Option.some.inj H
        go_wp2
        go_ret
        exact ⟨by first | rfl | (simp; done) | (simp [*]; done) | (simp [bne_nil_]; done), by repeat (first | exact Drawn0.refl _ | apply Drawn0.step)⟩

/-! ### laws_plain: function 8 -/
mutual
def laws_plain.l0 : Nat → ByteArray → ByteArray → Int → Option (Bool)
  | 0, _, _, _ => none
  | k + 1, x0, x1, x5 => if x5 < (x0.size : Int) then (if 0 ≤ x5 then (if (bt x0 x5) ≥ 48 then (if (bt x0 x5) ≤ 57 then (laws_plain.j1 k x0 x1 x5 (bt x0 x5) true) else (if (bt x0 x5) ≥ 97 then (if (bt x0 x5) ≤ 122 then (laws_plain.j1 k x0 x1 x5 (bt x0 x5) true) else (if (bt x0 x5) ≥ 65 then (laws_plain.j1 k x0 x1 x5 (bt x0 x5) (decide ((bt x0 x5) ≤ 90))) else (laws_plain.j1 k x0 x1 x5 (bt x0 x5) false))) else (if (bt x0 x5) ≥ 65 then (laws_plain.j1 k x0 x1 x5 (bt x0 x5) (decide ((bt x0 x5) ≤ 90))) else (laws_plain.j1 k x0 x1 x5 (bt x0 x5) false)))) else (if (bt x0 x5) ≥ 97 then (if (bt x0 x5) ≤ 122 then (laws_plain.j1 k x0 x1 x5 (bt x0 x5) true) else (if (bt x0 x5) ≥ 65 then (laws_plain.j1 k x0 x1 x5 (bt x0 x5) (decide ((bt x0 x5) ≤ 90))) else (laws_plain.j1 k x0 x1 x5 (bt x0 x5) false))) else (if (bt x0 x5) ≥ 65 then (laws_plain.j1 k x0 x1 x5 (bt x0 x5) (decide ((bt x0 x5) ≤ 90))) else (laws_plain.j1 k x0 x1 x5 (bt x0 x5) false)))) else (none)) else (some (x0.toList != ([] : List UInt8)))
def laws_plain.j1 : Nat → ByteArray → ByteArray → Int → Int → Bool → Option (Bool)
  | 0, _, _, _, _, _ => none
  | k + 1, x0, x1, x5, x6, x7 => laws_plain.l1 k x0 x1 x5 x6 x7 0
def laws_plain.l1 : Nat → ByteArray → ByteArray → Int → Int → Bool → Int → Option (Bool)
  | 0, _, _, _, _, _, _ => none
  | k + 1, x0, x1, x5, x6, x7, x8 => if x8 < (x1.size : Int) then (if x7 = true then (laws_plain.l1 k x0 x1 x5 x6 true (wrap64 (x8 + 1))) else (if 0 ≤ x8 then (laws_plain.l1 k x0 x1 x5 x6 (x6 == (bt x1 x8)) (wrap64 (x8 + 1))) else (none))) else (if x7 = true then (laws_plain.l0 k x0 x1 (wrap64 (x5 + 1))) else (some false))
end
def laws_plain.f (k : Nat) (a0 : ByteArray) (a1 : ByteArray) : Option (Bool) := laws_plain.l0 k a0 a1 0
theorem laws_plain.mono_l : ∀ k, (∀ y0 y1 y2, LeO (laws_plain.l0 k y0 y1 y2) (laws_plain.l0 (k + 1) y0 y1 y2)) ∧ (∀ y0 y1 y2 y3 y4, LeO (laws_plain.j1 k y0 y1 y2 y3 y4) (laws_plain.j1 (k + 1) y0 y1 y2 y3 y4)) ∧ (∀ y0 y1 y2 y3 y4 y5, LeO (laws_plain.l1 k y0 y1 y2 y3 y4 y5) (laws_plain.l1 (k + 1) y0 y1 y2 y3 y4 y5))
  | 0 => ⟨fun _ _ _ r h => by simp [laws_plain.l0] at h, fun _ _ _ _ _ r h => by simp [laws_plain.j1] at h, fun _ _ _ _ _ _ r h => by simp [laws_plain.l1] at h⟩
  | k + 1 => by
    obtain ⟨ih0, ih1, ih2⟩ := laws_plain.mono_l k
    refine ⟨?_, ?_, ?_⟩
    · intro y0 y1 y2
      unfold laws_plain.l0
      repeat' first
      | (with_reducible exact ih0 _ _ _)
      | (with_reducible exact ih1 _ _ _ _ _)
      | (with_reducible exact ih2 _ _ _ _ _ _)
      | (with_reducible exact LeO.refl _)
      | (with_reducible exact LeO.none _)
      | (with_reducible refine LeO.ite ?_ ?_)
      | (with_reducible refine LeO.bind ?_ (fun _ => ?_))
      | exact ih0 _ _ _
      | exact ih1 _ _ _ _ _
      | exact ih2 _ _ _ _ _ _
      | exact LeO.none _
      | refine LeO.ite ?_ ?_
      | refine LeO.bind ?_ (fun _ => ?_)
    · intro y0 y1 y2 y3 y4
      unfold laws_plain.j1
      repeat' first
      | (with_reducible exact ih0 _ _ _)
      | (with_reducible exact ih1 _ _ _ _ _)
      | (with_reducible exact ih2 _ _ _ _ _ _)
      | (with_reducible exact LeO.refl _)
      | (with_reducible exact LeO.none _)
      | (with_reducible refine LeO.ite ?_ ?_)
      | (with_reducible refine LeO.bind ?_ (fun _ => ?_))
      | exact ih0 _ _ _
      | exact ih1 _ _ _ _ _
      | exact ih2 _ _ _ _ _ _
      | exact LeO.none _
      | refine LeO.ite ?_ ?_
      | refine LeO.bind ?_ (fun _ => ?_)
    · intro y0 y1 y2 y3 y4 y5
      unfold laws_plain.l1
      repeat' first
      | (with_reducible exact ih0 _ _ _)
      | (with_reducible exact ih1 _ _ _ _ _)
      | (with_reducible exact ih2 _ _ _ _ _ _)
      | (with_reducible exact LeO.refl _)
      | (with_reducible exact LeO.none _)
      | (with_reducible refine LeO.ite ?_ ?_)
      | (with_reducible refine LeO.bind ?_ (fun _ => ?_))
      | exact ih0 _ _ _
      | exact ih1 _ _ _ _ _
      | exact ih2 _ _ _ _ _ _
      | exact LeO.none _
      | refine LeO.ite ?_ ?_
      | refine LeO.bind ?_ (fun _ => ?_)
theorem laws_plain.mono : ∀ a0 a1 k, LeO (laws_plain.f k a0 a1) (laws_plain.f (k + 1) a0 a1) := by
  intro a0 a1 k
  obtain ⟨ih0, ih1, ih2⟩ := laws_plain.mono_l k
  unfold laws_plain.f
  repeat' first
      | (with_reducible exact ih0 _ _ _)
      | (with_reducible exact ih1 _ _ _ _ _)
      | (with_reducible exact ih2 _ _ _ _ _ _)
      | (with_reducible exact LeO.refl _)
      | (with_reducible exact LeO.none _)
      | (with_reducible refine LeO.ite ?_ ?_)
      | (with_reducible refine LeO.bind ?_ (fun _ => ?_))
      | exact ih0 _ _ _
      | exact ih1 _ _ _ _ _
      | exact ih2 _ _ _ _ _ _
      | exact LeO.none _
      | refine LeO.ite ?_ ?_
      | refine LeO.bind ?_ (fun _ => ?_)
set_option maxHeartbeats 8000000 in
set_option maxRecDepth 100000 in
theorem laws_plain.calls (k : Nat) (a0 : ByteArray) (a1 : ByteArray) (r : Bool) (w : World) (h : laws_plain.f k a0 a1 = some r) :
    Calls Tryd.prog 8 #[.string a0, .string a1] w fun e w' => e = .returned (.bool r) ∧ Drawn0 w w' := by
  have H : (laws_plain.l0 k a0 a1 0) = some r := h
  clear h
  have H' := Aside0.mk H
  clear H
  go_enter Tryd.func8, Tryd.ntmps8
  go_wp2
  go_loopg [5] k (fun kq v5 w' => ∃ (x5_1 : Int), v5 = .int .i64 x5_1 ∧ Aside0 (laws_plain.l0 kq a0 a1 x5_1 = some r) ∧ Aside0 (kq ≤ k) ∧ Drawn0 w w')
  case atStart => exact ⟨(0), (by first | rfl | (simp; done) | (simp [*]; done) | (simp [bne_nil_]; done)), H', ⟨Nat.le_refl _⟩, by repeat (first | exact Drawn0.refl _ | apply Drawn0.step)⟩
  case round =>
    clear H'
    try clear p2
    obtain ⟨x5_1, rfl, HA, HK1, ⟨m1, rfl⟩⟩ := hrel
    cases gk with
    | zero => exact absurd HA.out (by simp [laws_plain.l0])
    | succ k1 =>
      have H := HA.out
      clear HA
      simp only [laws_plain.l0] at H
      by_cases c3 : x5_1 < (a0.size : Int)
      · rw [if_pos c3] at H
        have c3b0 : decide (x5_1 < (a0.size : Int)) = true := decide_eq_true c3
        clear c3
        by_cases c4 : 0 ≤ x5_1
        · rw [if_pos c4] at H
          have c4b0 : decide (0 ≤ x5_1) = true := decide_eq_true c4
          clear c4
          have HC6 := Aside0.mk H
          clear H
          have p5 : 0 ≤ (x5_1 : Int) := of_decide_eq_true (by first | (with_reducible assumption) | assumption)
          have q5 : x5_1 < (a0.size : Int) := of_decide_eq_true (by first | (with_reducible assumption) | assumption)
          have hx5 := bt_at a0 x5_1
          replace p5 := eq_true p5
          replace q5 := eq_true q5
          go_upto_region 5 with (fail)
          go_cut [7] (fun v7 wc => ∃ (kq : Nat) (x7_5 : Bool), v7 = .bool x7_5 ∧ Aside0 (laws_plain.j1 kq a0 a1 x5_1 (bt a0 x5_1) x7_5 = some r) ∧ Aside0 (kq ≤ k1) ∧ Drawn0 w wc)
          case first =>
            have H := HC6.out
            clear HC6
            by_cases c7 : (bt a0 x5_1) ≥ 48
            · rw [if_pos c7] at H
              have c7b0 : decide (48 ≤ (bt a0 x5_1)) = true := decide_eq_true c7
              clear c7
              (first | rw [c7b0] | (simp only [i64_w, i32_w]; rw [c7b0]) | skip)
              by_cases c8 : (bt a0 x5_1) ≤ 57
              · rw [if_pos c8] at H
                have c8b0 : decide ((bt a0 x5_1) ≤ 57) = true := decide_eq_true c8
                clear c8
                have H' := Aside0.mk H
                clear H
                go_wp2
                go_meet
                case rel => exact ⟨_, (true), (by first | rfl | (simp; done) | (simp [*]; done) | (simp [bne_nil_]; done)), H', ⟨by have := HK1.out; first | omega | exact Nat.le_refl _⟩, by repeat (first | exact Drawn0.refl _ | apply Drawn0.step)⟩
              · rw [if_neg c8] at H
                have c8b0 : decide ((bt a0 x5_1) ≤ 57) = false := decide_eq_false c8
                clear c8
                by_cases c9 : (bt a0 x5_1) ≥ 97
                · rw [if_pos c9] at H
                  have c9b0 : decide (97 ≤ (bt a0 x5_1)) = true := decide_eq_true c9
                  clear c9
                  by_cases c10 : (bt a0 x5_1) ≤ 122
                  · rw [if_pos c10] at H
                    have c10b0 : decide ((bt a0 x5_1) ≤ 122) = true := decide_eq_true c10
                    clear c10
                    have H' := Aside0.mk H
                    clear H
                    go_wp2
                    go_meet
                    case rel => exact ⟨_, (true), (by first | rfl | (simp; done) | (simp [*]; done) | (simp [bne_nil_]; done)), H', ⟨by have := HK1.out; first | omega | exact Nat.le_refl _⟩, by repeat (first | exact Drawn0.refl _ | apply Drawn0.step)⟩
                  · rw [if_neg c10] at H
                    have c10b0 : decide ((bt a0 x5_1) ≤ 122) = false := decide_eq_false c10
                    clear c10
                    by_cases c11 : (bt a0 x5_1) ≥ 65
                    · rw [if_pos c11] at H
                      have c11b0 : decide (65 ≤ (bt a0 x5_1)) = true := decide_eq_true c11
                      clear c11
                      have H' := Aside0.mk H
                      clear H
                      go_wp2
                      go_meet
                      case rel => exact ⟨_, (decide ((bt a0 x5_1) ≤ 90)), (by first | rfl | (simp; done) | (simp [*]; done) | (simp [bne_nil_]; done)), H', ⟨by have := HK1.out; first | omega | exact Nat.le_refl _⟩, by repeat (first | exact Drawn0.refl _ | apply Drawn0.step)⟩
                    · rw [if_neg c11] at H
                      have c11b0 : decide (65 ≤ (bt a0 x5_1)) = false := decide_eq_false c11
                      clear c11
                      have H' := Aside0.mk H
                      clear H
                      go_wp2
                      go_meet
                      case rel => exact ⟨_, (false), (by first | rfl | (simp; done) | (simp [*]; done) | (simp [bne_nil_]; done)), H', ⟨by have := HK1.out; first | omega | exact Nat.le_refl _⟩, by repeat (first | exact Drawn0.refl _ | apply Drawn0.step)⟩
                · rw [if_neg c9] at H
                  have c9b0 : decide (97 ≤ (bt a0 x5_1)) = false := decide_eq_false c9
                  clear c9
                  by_cases c12 : (bt a0 x5_1) ≥ 65
                  · rw [if_pos c12] at H
                    have c12b0 : decide (65 ≤ (bt a0 x5_1)) = true := decide_eq_true c12
                    clear c12
                    have H' := Aside0.mk H
                    clear H
                    go_wp2
                    go_meet
                    case rel => exact ⟨_, (decide ((bt a0 x5_1) ≤ 90)), (by first | rfl | (simp; done) | (simp [*]; done) | (simp [bne_nil_]; done)), H', ⟨by have := HK1.out; first | omega | exact Nat.le_refl _⟩, by repeat (first | exact Drawn0.refl _ | apply Drawn0.step)⟩
                  · rw [if_neg c12] at H
                    have c12b0 : decide (65 ≤ (bt a0 x5_1)) = false := decide_eq_false c12
                    clear c12
                    have H' := Aside0.mk H
                    clear H
                    go_wp2
                    go_meet
                    case rel => exact ⟨_, (false), (by first | rfl | (simp; done) | (simp [*]; done) | (simp [bne_nil_]; done)), H', ⟨by have := HK1.out; first | omega | exact Nat.le_refl _⟩, by repeat (first | exact Drawn0.refl _ | apply Drawn0.step)⟩
            · rw [if_neg c7] at H
              have c7b0 : decide (48 ≤ (bt a0 x5_1)) = false := decide_eq_false c7
              clear c7
              (first | rw [c7b0] | (simp only [i64_w, i32_w]; rw [c7b0]) | skip)
              by_cases c13 : (bt a0 x5_1) ≥ 97
              · rw [if_pos c13] at H
                have c13b0 : decide (97 ≤ (bt a0 x5_1)) = true := decide_eq_true c13
                clear c13
                by_cases c14 : (bt a0 x5_1) ≤ 122
                · rw [if_pos c14] at H
                  have c14b0 : decide ((bt a0 x5_1) ≤ 122) = true := decide_eq_true c14
                  clear c14
                  have H' := Aside0.mk H
                  clear H
                  go_wp2
                  go_meet
                  case rel => exact ⟨_, (true), (by first | rfl | (simp; done) | (simp [*]; done) | (simp [bne_nil_]; done)), H', ⟨by have := HK1.out; first | omega | exact Nat.le_refl _⟩, by repeat (first | exact Drawn0.refl _ | apply Drawn0.step)⟩
                · rw [if_neg c14] at H
                  have c14b0 : decide ((bt a0 x5_1) ≤ 122) = false := decide_eq_false c14
                  clear c14
                  by_cases c15 : (bt a0 x5_1) ≥ 65
                  · rw [if_pos c15] at H
                    have c15b0 : decide (65 ≤ (bt a0 x5_1)) = true := decide_eq_true c15
                    clear c15
                    have H' := Aside0.mk H
                    clear H
                    go_wp2
                    go_meet
                    case rel => exact ⟨_, (decide ((bt a0 x5_1) ≤ 90)), (by first | rfl | (simp; done) | (simp [*]; done) | (simp [bne_nil_]; done)), H', ⟨by have := HK1.out; first | omega | exact Nat.le_refl _⟩, by repeat (first | exact Drawn0.refl _ | apply Drawn0.step)⟩
                  · rw [if_neg c15] at H
                    have c15b0 : decide (65 ≤ (bt a0 x5_1)) = false := decide_eq_false c15
                    clear c15
                    have H' := Aside0.mk H
                    clear H
                    go_wp2
                    go_meet
                    case rel => exact ⟨_, (false), (by first | rfl | (simp; done) | (simp [*]; done) | (simp [bne_nil_]; done)), H', ⟨by have := HK1.out; first | omega | exact Nat.le_refl _⟩, by repeat (first | exact Drawn0.refl _ | apply Drawn0.step)⟩
              · rw [if_neg c13] at H
                have c13b0 : decide (97 ≤ (bt a0 x5_1)) = false := decide_eq_false c13
                clear c13
                by_cases c16 : (bt a0 x5_1) ≥ 65
                · rw [if_pos c16] at H
                  have c16b0 : decide (65 ≤ (bt a0 x5_1)) = true := decide_eq_true c16
                  clear c16
                  have H' := Aside0.mk H
                  clear H
                  go_wp2
                  go_meet
                  case rel => exact ⟨_, (decide ((bt a0 x5_1) ≤ 90)), (by first | rfl | (simp; done) | (simp [*]; done) | (simp [bne_nil_]; done)), H', ⟨by have := HK1.out; first | omega | exact Nat.le_refl _⟩, by repeat (first | exact Drawn0.refl _ | apply Drawn0.step)⟩
                · rw [if_neg c16] at H
                  have c16b0 : decide (65 ≤ (bt a0 x5_1)) = false := decide_eq_false c16
                  clear c16
                  have H' := Aside0.mk H
                  clear H
                  go_wp2
                  go_meet
                  case rel => exact ⟨_, (false), (by first | rfl | (simp; done) | (simp [*]; done) | (simp [bne_nil_]; done)), H', ⟨by have := HK1.out; first | omega | exact Nat.le_refl _⟩, by repeat (first | exact Drawn0.refl _ | apply Drawn0.step)⟩
          case rest =>
            clear HC6
            try clear c1
            try clear p2
            try clear c3
            try clear c3b0
            try clear c4
            try clear c4b0
            try clear p5
            try clear q5
            try clear hx5
            try clear c7
            try clear c7b0
            try clear c8
            try clear c8b0
            try clear c9
            try clear c9b0
            try clear c10
            try clear c10b0
            try clear c11
            try clear c11b0
            try clear c12
            try clear c12b0
            try clear c13
            try clear c13b0
            try clear c14
            try clear c14b0
            try clear c15
            try clear c15b0
            try clear c16
            try clear c16b0
            try clear p2
            try clear p5
            try clear q5
            obtain ⟨kq, x7_5, rfl, HA, HJ5, ⟨mc5, rfl⟩⟩ := hcut
            cases kq with
            | zero => exact absurd HA.out (by simp [laws_plain.j1])
            | succ kj5 =>
              have H := HA.out
              clear HA
              simp only [laws_plain.j1] at H
              have H' := Aside0.mk H
              clear H
              go_wp2
              go_loopg [7, 8] kj5 (fun kq v7 v8 w' => ∃ (x7_3 : Bool) (x8_3 : Int), v7 = .bool x7_3 ∧ v8 = .int .i64 x8_3 ∧ Aside0 (laws_plain.l1 kq a0 a1 x5_1 (bt a0 x5_1) x7_3 x8_3 = some r) ∧ Aside0 (kq ≤ kj5) ∧ Drawn0 w w')
              case atStart => exact ⟨(x7_5), (0), (by first | rfl | (simp; done) | (simp [*]; done) | (simp [bne_nil_]; done)), (by first | rfl | (simp; done) | (simp [*]; done) | (simp [bne_nil_]; done)), H', ⟨Nat.le_refl _⟩, by repeat (first | exact Drawn0.refl _ | apply Drawn0.step)⟩
              case round =>
                clear H'
                try clear c1
                try clear p2
                try clear c3
                try clear c3b0
                try clear c4
                try clear c4b0
                try clear c5
                try clear p5
                try clear q5
                try clear hx5
                try clear c7
                try clear c7b0
                try clear c8
                try clear c8b0
                try clear c9
                try clear c9b0
                try clear c10
                try clear c10b0
                try clear c11
                try clear c11b0
                try clear c12
                try clear c12b0
                try clear c13
                try clear c13b0
                try clear c14
                try clear c14b0
                try clear c15
                try clear c15b0
                try clear c16
                try clear c16b0
                try clear p2
                try clear p5
                try clear q5
                obtain ⟨x7_3, x8_3, rfl, rfl, HA, HK3, ⟨m3, rfl⟩⟩ := hrel
                cases gk with
                | zero => exact absurd HA.out (by simp [laws_plain.l1])
                | succ k3 =>
                  have H := HA.out
                  clear HA
                  simp only [laws_plain.l1] at H
                  by_cases c17 : x8_3 < (a1.size : Int)
                  · rw [if_pos c17] at H
                    have c17b0 : decide (x8_3 < (a1.size : Int)) = true := decide_eq_true c17
                    clear c17
                    by_cases c18 : x7_3 = true
                    · subst c18
                      have H1 : (laws_plain.l1 k3 a0 a1 x5_1 (bt a0 x5_1) true (wrap64 (x8_3 + 1))) = some r := by rw [if_pos rfl] at H; exact H
                      clear H
                      have H := H1
                      clear H1
                      have H' := Aside0.mk H
                      clear H
                      go_wp2
                      go_roundg k3
                      case measure => have := HK1.out; have := HJ5.out; have := HK3.out; omega
                      case rel => exact ⟨(true), (wrap64 (x8_3 + 1)), (by first | rfl | (simp; done) | (simp [*]; done) | (simp [bne_nil_]; done)), (by first | rfl | (simp; done) | (simp [*]; done) | (simp [bne_nil_]; done)), H', ⟨by have := HK1.out; have := HJ5.out; have := HK3.out; omega⟩, by repeat (first | exact Drawn0.refl _ | apply Drawn0.step)⟩
                    · replace c18 := Bool.eq_false_iff.mpr c18
                      subst c18
                      have H1 : (if 0 ≤ x8_3 then (laws_plain.l1 k3 a0 a1 x5_1 (bt a0 x5_1) ((bt a0 x5_1) == (bt a1 x8_3)) (wrap64 (x8_3 + 1))) else (none)) = some r := by rw [if_neg (show ¬ (false = true) by decide)] at H; exact H
                      clear H
                      have H := H1
                      clear H1
                      by_cases c19 : 0 ≤ x8_3
                      · rw [if_pos c19] at H
                        have c19b0 : decide (0 ≤ x8_3) = true := decide_eq_true c19
                        clear c19
                        have H' := Aside0.mk H
                        clear H
                        have p20 : 0 ≤ (x8_3 : Int) := of_decide_eq_true (by first | (with_reducible assumption) | assumption)
                        have q20 : x8_3 < (a1.size : Int) := of_decide_eq_true (by first | (with_reducible assumption) | assumption)
                        have hx20 := bt_at a1 x8_3
                        replace p20 := eq_true p20
                        replace q20 := eq_true q20
                        go_wp2
                        go_roundg k3
                        case measure => have := HK1.out; have := HJ5.out; have := HK3.out; omega
                        case rel => exact ⟨(((bt a0 x5_1) == (bt a1 x8_3))), (wrap64 (x8_3 + 1)), (by first | rfl | (simp; done) | (simp [*]; done) | (simp [bne_nil_]; done)), (by first | rfl | (simp; done) | (simp [*]; done) | (simp [bne_nil_]; done)), H', ⟨by have := HK1.out; have := HJ5.out; have := HK3.out; omega⟩, by repeat (first | exact Drawn0.refl _ | apply Drawn0.step)⟩
                      · rw [if_neg c19] at H
                        exact absurd H (by simp)
                  · rw [if_neg c17] at H
                    have c17b0 : decide (x8_3 < (a1.size : Int)) = false := decide_eq_false c17
                    clear c17
                    by_cases c21 : x7_3 = true
                    · subst c21
                      have H1 : (laws_plain.l0 k3 a0 a1 (wrap64 (x5_1 + 1))) = some r := by rw [if_pos rfl] at H; exact H
                      clear H
                      have H := H1
                      clear H1
                      have H' := Aside0.mk H
                      clear H
                      go_wp2
                      go_roundg k3
                      case measure => have := HK1.out; have := HJ5.out; have := HK3.out; omega
                      case rel => exact ⟨(wrap64 (x5_1 + 1)), (by first | rfl | (simp; done) | (simp [*]; done) | (simp [bne_nil_]; done)), H', ⟨by have := HK1.out; have := HJ5.out; have := HK3.out; omega⟩, by repeat (first | exact Drawn0.refl _ | apply Drawn0.step)⟩
                    · replace c21 := Bool.eq_false_iff.mpr c21
                      subst c21
                      have H1 : (some false) = some r := by rw [if_neg (show ¬ (false = true) by decide)] at H; exact H
                      clear H
                      have H := H1
                      clear H1
                      obtain rfl := Option.some.inj H
                      go_wp2
                      go_ret
                      exact ⟨by first | rfl | (simp; done) | (simp [*]; done) | (simp [bne_nil_]; done), by repeat (first | exact Drawn0.refl _ | apply Drawn0.step)⟩
        · rw [if_neg c4] at H
          exact absurd H (by simp)
      · rw [if_neg c3] at H
        have c3b0 : decide (x5_1 < (a0.size : Int)) = false := decide_eq_false c3
        clear c3
        obtain rfl := Option.some.inj H
        go_wp2
        go_ret
        exact ⟨by first | rfl | (simp; done) | (simp [*]; done) | (simp [bne_nil_]; done), by repeat (first | exact Drawn0.refl _ | apply Drawn0.step)⟩

/-! ### semantic_zzIndex: function 34 -/
def semantic_zzIndex.l0 : Nat → ByteArray → ByteArray → Int → Option (Int)
  | 0, _, _, _ => none
  | k + 1, x0, x1, x5 => if (wrap64 (x5 + (x1.size : Int))) ≤ (x0.size : Int) then (if 0 ≤ x5 then (if x5 ≤ (wrap64 (x5 + (x1.size : Int))) then (if (x0.extract (x5 : Int).toNat ((wrap64 (x5 + (x1.size : Int))) : Int).toNat).toList = x1.toList then (some x5) else (semantic_zzIndex.l0 k x0 x1 (wrap64 (x5 + 1)))) else (none)) else (none)) else (some (-1))
def semantic_zzIndex.f (k : Nat) (a0 : ByteArray) (a1 : ByteArray) : Option (Int) := semantic_zzIndex.l0 k a0 a1 0
theorem semantic_zzIndex.mono_l : ∀ k, (∀ y0 y1 y2, LeO (semantic_zzIndex.l0 k y0 y1 y2) (semantic_zzIndex.l0 (k + 1) y0 y1 y2))
  | 0 => fun _ _ _ r h => by simp [semantic_zzIndex.l0] at h
  | k + 1 => by
    have ih0 := semantic_zzIndex.mono_l k
    · intro y0 y1 y2
      unfold semantic_zzIndex.l0
      repeat' first
      | (with_reducible exact ih0 _ _ _)
      | (with_reducible exact LeO.refl _)
      | (with_reducible exact LeO.none _)
      | (with_reducible refine LeO.ite ?_ ?_)
      | (with_reducible refine LeO.bind ?_ (fun _ => ?_))
      | exact ih0 _ _ _
      | exact LeO.none _
      | refine LeO.ite ?_ ?_
      | refine LeO.bind ?_ (fun _ => ?_)
theorem semantic_zzIndex.mono : ∀ a0 a1 k, LeO (semantic_zzIndex.f k a0 a1) (semantic_zzIndex.f (k + 1) a0 a1) := by
  intro a0 a1 k
  have ih0 := semantic_zzIndex.mono_l k
  unfold semantic_zzIndex.f
  repeat' first
      | (with_reducible exact ih0 _ _ _)
      | (with_reducible exact LeO.refl _)
      | (with_reducible exact LeO.none _)
      | (with_reducible refine LeO.ite ?_ ?_)
      | (with_reducible refine LeO.bind ?_ (fun _ => ?_))
      | exact ih0 _ _ _
      | exact LeO.none _
      | refine LeO.ite ?_ ?_
      | refine LeO.bind ?_ (fun _ => ?_)
set_option maxHeartbeats 8000000 in
set_option maxRecDepth 100000 in
theorem semantic_zzIndex.calls (k : Nat) (a0 : ByteArray) (a1 : ByteArray) (r : Int) (w : World) (h : semantic_zzIndex.f k a0 a1 = some r) :
    Calls Tryd.prog 34 #[.string a0, .string a1] w fun e w' => e = .returned (.int .i64 r) ∧ Drawn0 w w' := by
  have H : (semantic_zzIndex.l0 k a0 a1 0) = some r := h
  clear h
  have H' := Aside0.mk H
  clear H
  go_enter Tryd.func34, Tryd.ntmps34
  go_wp2
  go_loopg [5] k (fun kq v5 w' => ∃ (x5_1 : Int), v5 = .int .i64 x5_1 ∧ Aside0 (semantic_zzIndex.l0 kq a0 a1 x5_1 = some r) ∧ Aside0 (kq ≤ k) ∧ Drawn0 w w')
  case atStart => exact ⟨(0), (by first | rfl | (simp; done) | (simp [*]; done) | (simp [bne_nil_]; done)), H', ⟨Nat.le_refl _⟩, by repeat (first | exact Drawn0.refl _ | apply Drawn0.step)⟩
  case round =>
    clear H'
    try clear p2
    obtain ⟨x5_1, rfl, HA, HK1, ⟨m1, rfl⟩⟩ := hrel
    cases gk with
    | zero => exact absurd HA.out (by simp [semantic_zzIndex.l0])
    | succ k1 =>
      have H := HA.out
      clear HA
      simp only [semantic_zzIndex.l0] at H
      by_cases c3 : (wrap64 (x5_1 + (a1.size : Int))) ≤ (a0.size : Int)
      · rw [if_pos c3] at H
        have c3b0 : decide ((wrap64 (x5_1 + (a1.size : Int))) ≤ (a0.size : Int)) = true := decide_eq_true c3
        clear c3
        by_cases c4 : 0 ≤ x5_1
        · rw [if_pos c4] at H
          have c4b0 := eq_true c4
          have c4b1 : decide (0 ≤ x5_1) = true := decide_eq_true c4
          clear c4
          by_cases c5 : x5_1 ≤ (wrap64 (x5_1 + (a1.size : Int)))
          · rw [if_pos c5] at H
            have c5b0 := eq_true c5
            have c5b1 : decide (x5_1 ≤ (wrap64 (x5_1 + (a1.size : Int)))) = true := decide_eq_true c5
            have c6b0 := eq_true (of_decide_eq_true (by first | (with_reducible assumption) | assumption) : (wrap64 (x5_1 + (a1.size : Int))) ≤ (a0.size : Int))
            by_cases c7 : (a0.extract (x5_1 : Int).toNat ((wrap64 (x5_1 + (a1.size : Int))) : Int).toNat).toList = a1.toList
            · rw [if_pos c7] at H
              (try (have c7bz := c7; simp only [ByteArray.size_extract, Nat.min_self] at c7bz; replace c7bz := decide_eq_true c7bz))
              have c7b0 : ((a0.extract (x5_1 : Int).toNat ((wrap64 (x5_1 + (a1.size : Int))) : Int).toNat).toList == a1.toList) = true := beq_iff_eq.mpr c7
              have c7b1 : ((a0.extract (x5_1 : Int).toNat ((wrap64 (x5_1 + (a1.size : Int))) : Int).toNat).toList != a1.toList) = false := bne_eq_false_iff_eq.mpr c7
              clear c7
              obtain rfl := Option.some.inj H
              go_wp2
              go_ret
              exact ⟨by first | rfl | (simp; done) | (simp [*]; done) | (simp [bne_nil_]; done), by repeat (first | exact Drawn0.refl _ | apply Drawn0.step)⟩
            · rw [if_neg c7] at H
              (try (have c7bz := c7; simp only [ByteArray.size_extract, Nat.min_self] at c7bz; replace c7bz := decide_eq_false c7bz))
              have c7b0 : ((a0.extract (x5_1 : Int).toNat ((wrap64 (x5_1 + (a1.size : Int))) : Int).toNat).toList == a1.toList) = false := beq_eq_false_iff_ne.mpr c7
              have c7b1 : ((a0.extract (x5_1 : Int).toNat ((wrap64 (x5_1 + (a1.size : Int))) : Int).toNat).toList != a1.toList) = true := bne_iff_ne.mpr c7
              have H' := Aside0.mk H
              clear H
              go_wp2
              go_roundg k1
              case measure => have := HK1.out; omega
              case rel => exact ⟨(wrap64 (x5_1 + 1)), (by first | rfl | (simp; done) | (simp [*]; done) | (simp [bne_nil_]; done)), H', ⟨by have := HK1.out; omega⟩, by repeat (first | exact Drawn0.refl _ | apply Drawn0.step)⟩
          · rw [if_neg c5] at H
            exact absurd H (by simp)
        · rw [if_neg c4] at H
          exact absurd H (by simp)
      · rw [if_neg c3] at H
        have c3b0 : decide ((wrap64 (x5_1 + (a1.size : Int))) ≤ (a0.size : Int)) = false := decide_eq_false c3
        clear c3
        obtain rfl := Option.some.inj H
        go_wp2
        go_ret
        exact ⟨by first | rfl | (simp; done) | (simp [*]; done) | (simp [bne_nil_]; done), by repeat (first | exact Drawn0.refl _ | apply Drawn0.step)⟩

/-! ### semantic_zzCut: function 24 -/
def semantic_zzCut.f (k : Nat) (a0 : ByteArray) (a1 : ByteArray) : Option (ByteArray × ByteArray × Bool) := (semantic_zzIndex.f k a0 a1).bind fun t102 => (if t102 ≥ 0 then (if 0 ≤ t102 then (if t102 ≤ (a0.size : Int) then (if 0 ≤ (wrap64 (t102 + (a1.size : Int))) then (if (wrap64 (t102 + (a1.size : Int))) ≤ (a0.size : Int) then (some (a0.extract 0 (t102 : Int).toNat, a0.extract ((wrap64 (t102 + (a1.size : Int))) : Int).toNat a0.size, true)) else (none)) else (none)) else (none)) else (none)) else (some (a0, (⟨#[]⟩ : ByteArray), false)))
theorem semantic_zzCut.mono : ∀ a0 a1 k, LeO (semantic_zzCut.f k a0 a1) (semantic_zzCut.f (k + 1) a0 a1) := by
  intro a0 a1 k
  unfold semantic_zzCut.f
  repeat' first
      | (with_reducible exact semantic_zzIndex.mono _ _ _)
      | (with_reducible exact LeO.refl _)
      | (with_reducible exact LeO.none _)
      | (with_reducible refine LeO.ite ?_ ?_)
      | (with_reducible refine LeO.bind ?_ (fun _ => ?_))
      | exact semantic_zzIndex.mono _ _ _
      | exact LeO.none _
      | refine LeO.ite ?_ ?_
      | refine LeO.bind ?_ (fun _ => ?_)
set_option maxHeartbeats 8000000 in
set_option maxRecDepth 100000 in
theorem semantic_zzCut.calls (k : Nat) (a0 : ByteArray) (a1 : ByteArray) (r1 : ByteArray) (r2 : ByteArray) (r3 : Bool) (w : World) (h : semantic_zzCut.f k a0 a1 = some (r1, r2, r3)) :
    Calls Tryd.prog 24 #[.string a0, .string a1] w fun e w' => e = .returned (.tuple #[.string r1, .string r2, .bool r3]) ∧ Drawn0 w w' := by
  have H : ((semantic_zzIndex.f k a0 a1).bind fun t102 => (if t102 ≥ 0 then (if 0 ≤ t102 then (if t102 ≤ (a0.size : Int) then (if 0 ≤ (wrap64 (t102 + (a1.size : Int))) then (if (wrap64 (t102 + (a1.size : Int))) ≤ (a0.size : Int) then (some (a0.extract 0 (t102 : Int).toNat, a0.extract ((wrap64 (t102 + (a1.size : Int))) : Int).toNat a0.size, true)) else (none)) else (none)) else (none)) else (none)) else (some (a0, (⟨#[]⟩ : ByteArray), false)))) = some (r1, r2, r3) := h
  clear h
  replace H := Option.bind_eq_some_iff.mp H
  obtain ⟨t102, A30, H⟩ := H
  replace H : (if t102 ≥ 0 then (if 0 ≤ t102 then (if t102 ≤ (a0.size : Int) then (if 0 ≤ (wrap64 (t102 + (a1.size : Int))) then (if (wrap64 (t102 + (a1.size : Int))) ≤ (a0.size : Int) then (some (a0.extract 0 (t102 : Int).toNat, a0.extract ((wrap64 (t102 + (a1.size : Int))) : Int).toNat a0.size, true)) else (none)) else (none)) else (none)) else (none)) else (some (a0, (⟨#[]⟩ : ByteArray), false))) = some (r1, r2, r3) := H
  have A3 := Aside0.mk A30
  clear A30
  by_cases c4 : t102 ≥ 0
  · rw [if_pos c4] at H
    have c4b0 : decide (0 ≤ t102) = true := decide_eq_true c4
    clear c4
    by_cases c5 : 0 ≤ t102
    · rw [if_pos c5] at H
      have c5b0 := eq_true c5
      have c5b1 : decide (0 ≤ t102) = true := decide_eq_true c5
      clear c5
      by_cases c6 : t102 ≤ (a0.size : Int)
      · rw [if_pos c6] at H
        have c6b0 := eq_true c6
        have c6b1 : decide (t102 ≤ (a0.size : Int)) = true := decide_eq_true c6
        clear c6
        obtain ⟨ji7, hji7⟩ : ∃ j_ : Int, (wrap64 (t102 + (a1.size : Int))) = j_ := ⟨_, rfl⟩
        replace H : (if 0 ≤ (ji7) then (if (ji7) ≤ (a0.size : Int) then (some (a0.extract 0 (t102 : Int).toNat, a0.extract ((ji7) : Int).toNat a0.size, true)) else (none)) else (none)) = some (r1, r2, r3) := by first | (rw [hji7] at H; exact H) | (simp only [hji7] at H ⊢; exact H)
        (try rw [hji7] at A3)
        have hji7w : (IntKind.i64.wrap (t102 + (a1.size : Int))) = ji7 := (i64_w _).trans hji7
        by_cases c8 : 0 ≤ (ji7)
        · rw [if_pos c8] at H
          have c8b0 := eq_true c8
          have c8b1 : decide (0 ≤ (ji7)) = true := decide_eq_true c8
          clear c8
          by_cases c9 : (ji7) ≤ (a0.size : Int)
          · rw [if_pos c9] at H
            have c9b0 := eq_true c9
            have c9b1 : decide ((ji7) ≤ (a0.size : Int)) = true := decide_eq_true c9
            clear c9
            simp only [Option.some.injEq, Prod.mk.injEq] at H
            obtain ⟨rfl, rfl, rfl⟩ := H
            go_enter Tryd.func24, Tryd.ntmps24
            go_wp2_with (first | (go_at_call 34; (with_reducible refine (semantic_zzIndex.calls k a0 a1 t102 _ A3.out).mono ?_); rintro e w' ⟨rfl, ⟨nd, rfl⟩⟩; (try first | exact ⟨rfl, _, World.drewN_drewN _ _ _⟩ | exact ⟨rfl, _, Eq.trans (World.drewN_drewN _ _ _) (congrArg (World.drewN _) (Nat.add_assoc _ _ _))⟩)))
            repeat (go_quiet (first | (go_at_call 34; (with_reducible refine (semantic_zzIndex.calls k a0 a1 t102 _ A3.out).mono ?_); rintro e w' ⟨rfl, ⟨nd, rfl⟩⟩; (try first | exact ⟨rfl, _, World.drewN_drewN _ _ _⟩ | exact ⟨rfl, _, Eq.trans (World.drewN_drewN _ _ _) (congrArg (World.drewN _) (Nat.add_assoc _ _ _))⟩))); try go_wp2_with (first | (go_at_call 34; (with_reducible refine (semantic_zzIndex.calls k a0 a1 t102 _ A3.out).mono ?_); rintro e w' ⟨rfl, ⟨nd, rfl⟩⟩; (try first | exact ⟨rfl, _, World.drewN_drewN _ _ _⟩ | exact ⟨rfl, _, Eq.trans (World.drewN_drewN _ _ _) (congrArg (World.drewN _) (Nat.add_assoc _ _ _))⟩))))
            go_ret3
            exact ⟨by first | rfl | (simp; done) | (simp only [← hji7] <;> (first | rfl | simp)) | (simp [*]; done), by repeat (first | exact Drawn0.refl _ | apply Drawn0.step)⟩
          · rw [if_neg c9] at H
            exact absurd H (by simp)
        · rw [if_neg c8] at H
          exact absurd H (by simp)
      · rw [if_neg c6] at H
        exact absurd H (by simp)
    · rw [if_neg c5] at H
      exact absurd H (by simp)
  · rw [if_neg c4] at H
    have c4b0 : decide (0 ≤ t102) = false := decide_eq_false c4
    clear c4
    simp only [Option.some.injEq, Prod.mk.injEq] at H
    obtain ⟨rfl, rfl, rfl⟩ := H
    go_enter Tryd.func24, Tryd.ntmps24
    go_wp2_with (first | (go_at_call 34; (with_reducible refine (semantic_zzIndex.calls k a0 a1 t102 _ A3.out).mono ?_); rintro e w' ⟨rfl, ⟨nd, rfl⟩⟩; (try first | exact ⟨rfl, _, World.drewN_drewN _ _ _⟩ | exact ⟨rfl, _, Eq.trans (World.drewN_drewN _ _ _) (congrArg (World.drewN _) (Nat.add_assoc _ _ _))⟩)))
    repeat (go_quiet (first | (go_at_call 34; (with_reducible refine (semantic_zzIndex.calls k a0 a1 t102 _ A3.out).mono ?_); rintro e w' ⟨rfl, ⟨nd, rfl⟩⟩; (try first | exact ⟨rfl, _, World.drewN_drewN _ _ _⟩ | exact ⟨rfl, _, Eq.trans (World.drewN_drewN _ _ _) (congrArg (World.drewN _) (Nat.add_assoc _ _ _))⟩))); try go_wp2_with (first | (go_at_call 34; (with_reducible refine (semantic_zzIndex.calls k a0 a1 t102 _ A3.out).mono ?_); rintro e w' ⟨rfl, ⟨nd, rfl⟩⟩; (try first | exact ⟨rfl, _, World.drewN_drewN _ _ _⟩ | exact ⟨rfl, _, Eq.trans (World.drewN_drewN _ _ _) (congrArg (World.drewN _) (Nat.add_assoc _ _ _))⟩))))
    go_ret3
    exact ⟨by first | rfl | (simp; done) | (simp [*]; done) | (simp [bne_nil_]; done), by repeat (first | exact Drawn0.refl _ | apply Drawn0.step)⟩

/-! ### semantic_isASCIIDigit: function 35 -/
def semantic_isASCIIDigit.f (a0 : Int) : Option (Bool) := if a0 ≥ 48 then (some (decide (a0 ≤ 57))) else (some false)
set_option maxHeartbeats 8000000 in
set_option maxRecDepth 100000 in
theorem semantic_isASCIIDigit.calls (a0 : Int) (r : Bool) (w : World) (h : semantic_isASCIIDigit.f a0 = some r) :
    Calls Tryd.prog 35 #[.int .i32 a0] w fun e w' => e = .returned (.bool r) ∧ Drawn0 w w' := by
  have H : (if a0 ≥ 48 then (some (decide (a0 ≤ 57))) else (some false)) = some r := h
  clear h
  by_cases c2 : a0 ≥ 48
  · rw [if_pos c2] at H
    have c2b0 : decide (48 ≤ a0) = true := decide_eq_true c2
    clear c2
    obtain rfl := Option.some.inj H
    go_enter Tryd.func35, Tryd.ntmps35
    go_wp2
    go_ret
    exact ⟨by first | rfl | (simp; done) | (simp [*]; done) | (simp [bne_nil_]; done), by repeat (first | exact Drawn0.refl _ | apply Drawn0.step)⟩
  · rw [if_neg c2] at H
    have c2b0 : decide (48 ≤ a0) = false := decide_eq_false c2
    clear c2
    obtain rfl := Option.some.inj H
    go_enter Tryd.func35, Tryd.ntmps35
    go_wp2
    go_ret
    exact ⟨by first | rfl | (simp; done) | (simp [*]; done) | (simp [bne_nil_]; done), by repeat (first | exact Drawn0.refl _ | apply Drawn0.step)⟩

-- GIVEN: function 25 (semantic_isOnlyDigits)

/-! ### semantic_ParseRedHatVersion: function 18 -/
mutual
def semantic_ParseRedHatVersion.j0 : Nat → ByteArray → ByteArray → ByteArray → Bool → Option (ByteArray × ByteArray × ByteArray)
  | 0, _, _, _, _ => none
  | k + 1, x0, x3, x4, x21 => if x21 = true then (semantic_ParseRedHatVersion.j1 k (⟨#[]⟩ : ByteArray) x0) else (semantic_ParseRedHatVersion.j1 k x3 x4)
def semantic_ParseRedHatVersion.j1 : Nat → ByteArray → ByteArray → Option (ByteArray × ByteArray × ByteArray)
  | 0, _, _ => none
  | k + 1, x3, x4 => (semantic_zzCut.f k x4 (⟨#[45]⟩ : ByteArray)).bind fun bt108 => (if bt108.2.2 = true then (if 1 + bt108.2.1.size ≤ 9223372036854775807 then (if x3.toList = ([] : List UInt8) then (some ((⟨#[48]⟩ : ByteArray), bt108.1, (⟨#[45]⟩ : ByteArray) ++ bt108.2.1)) else (some (x3, bt108.1, (⟨#[45]⟩ : ByteArray) ++ bt108.2.1))) else (none)) else (if x3.toList = ([] : List UInt8) then (some ((⟨#[48]⟩ : ByteArray), bt108.1, bt108.2.1)) else (some (x3, bt108.1, bt108.2.1))))
end
def semantic_ParseRedHatVersion.f (k : Nat) (a0 : ByteArray) : Option (ByteArray × ByteArray × ByteArray) := (semantic_zzCut.f k a0 (⟨#[58]⟩ : ByteArray)).bind fun bt104 => (if bt104.2.2 = true then ((Giv.semantic_isOnlyDigits.f bt104.1).bind fun t107 => (semantic_ParseRedHatVersion.j0 k a0 bt104.1 bt104.2.1 (!t107))) else (semantic_ParseRedHatVersion.j0 k a0 bt104.1 bt104.2.1 true))
theorem semantic_ParseRedHatVersion.mono_l : ∀ k, (∀ y0 y1 y2 y3, LeO (semantic_ParseRedHatVersion.j0 k y0 y1 y2 y3) (semantic_ParseRedHatVersion.j0 (k + 1) y0 y1 y2 y3)) ∧ (∀ y0 y1, LeO (semantic_ParseRedHatVersion.j1 k y0 y1) (semantic_ParseRedHatVersion.j1 (k + 1) y0 y1))
  | 0 => ⟨fun _ _ _ _ r h => by simp [semantic_ParseRedHatVersion.j0] at h, fun _ _ r h => by simp [semantic_ParseRedHatVersion.j1] at h⟩
  | k + 1 => by
    obtain ⟨ih0, ih1⟩ := semantic_ParseRedHatVersion.mono_l k
    refine ⟨?_, ?_⟩
    · intro y0 y1 y2 y3
      unfold semantic_ParseRedHatVersion.j0
      repeat' first
      | (with_reducible exact ih0 _ _ _ _)
      | (with_reducible exact ih1 _ _)
      | (with_reducible exact semantic_zzCut.mono _ _ _)
      | (with_reducible exact LeO.refl _)
      | (with_reducible exact LeO.none _)
      | (with_reducible refine LeO.ite ?_ ?_)
      | (with_reducible refine LeO.bind ?_ (fun _ => ?_))
      | exact ih0 _ _ _ _
      | exact ih1 _ _
      | exact semantic_zzCut.mono _ _ _
      | exact LeO.none _
      | refine LeO.ite ?_ ?_
      | refine LeO.bind ?_ (fun _ => ?_)
    · intro y0 y1
      unfold semantic_ParseRedHatVersion.j1
      repeat' first
      | (with_reducible exact ih0 _ _ _ _)
      | (with_reducible exact ih1 _ _)
      | (with_reducible exact semantic_zzCut.mono _ _ _)
      | (with_reducible exact LeO.refl _)
      | (with_reducible exact LeO.none _)
      | (with_reducible refine LeO.ite ?_ ?_)
      | (with_reducible refine LeO.bind ?_ (fun _ => ?_))
      | exact ih0 _ _ _ _
      | exact ih1 _ _
      | exact semantic_zzCut.mono _ _ _
      | exact LeO.none _
      | refine LeO.ite ?_ ?_
      | refine LeO.bind ?_ (fun _ => ?_)
theorem semantic_ParseRedHatVersion.mono : ∀ a0 k, LeO (semantic_ParseRedHatVersion.f k a0) (semantic_ParseRedHatVersion.f (k + 1) a0) := by
  intro a0 k
  obtain ⟨ih0, ih1⟩ := semantic_ParseRedHatVersion.mono_l k
  unfold semantic_ParseRedHatVersion.f
  repeat' first
      | (with_reducible exact ih0 _ _ _ _)
      | (with_reducible exact ih1 _ _)
      | (with_reducible exact semantic_zzCut.mono _ _ _)
      | (with_reducible exact LeO.refl _)
      | (with_reducible exact LeO.none _)
      | (with_reducible refine LeO.ite ?_ ?_)
      | (with_reducible refine LeO.bind ?_ (fun _ => ?_))
      | exact ih0 _ _ _ _
      | exact ih1 _ _
      | exact semantic_zzCut.mono _ _ _
      | exact LeO.none _
      | refine LeO.ite ?_ ?_
      | refine LeO.bind ?_ (fun _ => ?_)
set_option maxHeartbeats 8000000 in
set_option maxRecDepth 100000 in
theorem semantic_ParseRedHatVersion.calls (k : Nat) (a0 : ByteArray) (r1 : ByteArray) (r2 : ByteArray) (r3 : ByteArray) (w : World) (h : semantic_ParseRedHatVersion.f k a0 = some (r1, r2, r3)) :
    Calls Tryd.prog 18 #[.string a0] w fun e w' => e = .returned (.agg #[.string r1, .string r2, .string r3]) ∧ Below w.heap.size w w' := by
  have hu42 := Tryd.underlying42
  have HB := Aside0.mk (Below.refl w.heap.size w)
  have H : ((semantic_zzCut.f k a0 (⟨#[58]⟩ : ByteArray)).bind fun bt104 => (if bt104.2.2 = true then ((Giv.semantic_isOnlyDigits.f bt104.1).bind fun t107 => (semantic_ParseRedHatVersion.j0 k a0 bt104.1 bt104.2.1 (!t107))) else (semantic_ParseRedHatVersion.j0 k a0 bt104.1 bt104.2.1 true))) = some (r1, r2, r3) := h
  clear h
  replace H := Option.bind_eq_some_iff.mp H
  obtain ⟨⟨t104, t105, t106⟩, A20, H⟩ := H
  replace H : (if t106 = true then ((Giv.semantic_isOnlyDigits.f t104).bind fun t107 => (semantic_ParseRedHatVersion.j0 k a0 t104 t105 (!t107))) else (semantic_ParseRedHatVersion.j0 k a0 t104 t105 true)) = some (r1, r2, r3) := H
  have A2 := Aside0.mk A20
  clear A20
  have HC3 := Aside0.mk H
  clear H
  go_enter Tryd.func18, Tryd.ntmps18
  go_upto_region 2 with (first | ((with_reducible refine gate_dst (N := 2) rfl ?_); refine box_event ?hg (N := 2) ?hd (cs := #[.string (⟨#[]⟩ : ByteArray), .string (⟨#[]⟩ : ByteArray), .string (⟨#[]⟩ : ByteArray)]) (t := 42) ?hr ?_; (case hd => rfl); (case hg => rfl); (case hr => first | (go_simp; done) | (go_simp; rfl)); intro gb103 hg w4 hbox hb; have n0_ := Aside0.mk (below_step (by repeat (first | (with_reducible first | exact HB.out | apply below_alloc | apply pw_below_drewN | apply below_drew1) | exact HB.out)) hb); have n1_ := Aside0.mk (hbox); have n2_ := Aside0.mk ((by rw [hg]; exact (below_size (by repeat (first | (with_reducible first | exact HB.out | apply below_alloc | apply pw_below_drewN | apply below_drew1) | exact HB.out))) : w.heap.size ≤ gb103)); have n3_ := Aside0.mk ((by rw [hg]; exact (below_size (by repeat (first | (with_reducible first | exact HB.out | apply below_alloc | apply pw_below_drewN | apply below_drew1) | exact HB.out))) : w.heap.size ≤ gb103)); clear HB; have HB := n0_; have BK103 := n1_; have GW103 := n2_; have GE103 := n3_; clear n0_ n1_ n2_ n3_; clear hb hbox hg) | ((with_reducible refine gate_callee (f := 24) rfl ?_); refine goesL_ (some 11) rfl rfl Tryd.func24 (by kernel_rfl) rfl #[.string a0, .string (⟨#[58]⟩ : ByteArray)] rfl (by (try simp only [List.map_toArray, List.map_cons, List.map_nil]); first | done | rfl | (simp only [List.length_drop, List.length_take]; rfl)) ?_; (with_reducible refine (semantic_zzCut.calls k a0 (⟨#[58]⟩ : ByteArray) t104 t105 t106 _ A2.out).mono ?_); rintro e w' ⟨rfl, ⟨nd, rfl⟩⟩; refine ⟨_, rfl, ?_⟩))
  (try simp only [Act.put, List.setIfInBounds_toArray, List.set_cons_zero, List.set_cons_succ])
  go_cut [21] (fun v21 wc => ∃ (kq : Nat) (x21_2 : Bool), v21 = .bool x21_2 ∧ Aside0 (semantic_ParseRedHatVersion.j0 kq a0 t104 t105 x21_2 = some (r1, r2, r3)) ∧ Aside0 (kq ≤ k) ∧ Aside0 (wc.heap[gb103]? = some (.cells #[.string (⟨#[]⟩ : ByteArray), .string (⟨#[]⟩ : ByteArray), .string (⟨#[]⟩ : ByteArray)] 42 (0, 0))) ∧ Aside0 (Below w.heap.size w wc))
  case first =>
    have H := HC3.out
    clear HC3
    by_cases c5 : t106 = true
    · subst c5
      have H1 : ((Giv.semantic_isOnlyDigits.f t104).bind fun t107 => (semantic_ParseRedHatVersion.j0 k a0 t104 t105 (!t107))) = some (r1, r2, r3) := by rw [if_pos rfl] at H; exact H
      clear H
      have H := H1
      clear H1
      replace H := Option.bind_eq_some_iff.mp H
      obtain ⟨t107, A60, H⟩ := H
      replace H : (semantic_ParseRedHatVersion.j0 k a0 t104 t105 (!t107)) = some (r1, r2, r3) := H
      have A6 := Aside0.mk A60
      clear A60
      have H' := Aside0.mk H
      clear H
      go_wp2_with (first | (go_at_call 25; (with_reducible refine (Giv.semantic_isOnlyDigits.calls t104 t107 _ A6.out).mono ?_); rintro e w7 ⟨rfl, hb⟩; have n0_ := Aside0.mk (blk_below (g := gb103) (o := .cells #[.string (⟨#[]⟩ : ByteArray), .string (⟨#[]⟩ : ByteArray), .string (⟨#[]⟩ : ByteArray)] 42 (0, 0)) (by (with_reducible repeat (first | refine blk_drewN ?_ _ | refine blk_drew ?_ | refine blk_alloc ?_ _)); exact BK103.out) hb); have n1_ := Aside0.mk (below_step (by repeat (first | (with_reducible first | exact HB.out | apply below_alloc | apply pw_below_drewN | apply below_drew1 | refine below_set ?_ GE103.out) | exact HB.out)) hb); clear BK103; clear HB; have BK103 := n0_; have HB := n1_; clear n0_ n1_; (try clear hb); (try clear hb2); (try clear hk); (try clear hi)))
      go_meet
      case rel => exact ⟨_, (!t107), (by first | rfl | (simp; done) | (simp [*]; done) | (simp [bne_nil_]; done)), H', ⟨by first | omega | exact Nat.le_refl _⟩, ⟨by (with_reducible repeat (first | refine blk_drewN ?_ _ | refine blk_drew ?_ | refine blk_alloc ?_ _)); exact BK103.out⟩, ⟨by repeat (first | (with_reducible first | exact HB.out | apply below_alloc | apply pw_below_drewN | apply below_drew1 | refine below_set ?_ GE103.out) | exact HB.out)⟩⟩
    · replace c5 := Bool.eq_false_iff.mpr c5
      subst c5
      have H1 : (semantic_ParseRedHatVersion.j0 k a0 t104 t105 true) = some (r1, r2, r3) := by rw [if_neg (show ¬ (false = true) by decide)] at H; exact H
      clear H
      have H := H1
      clear H1
      have H' := Aside0.mk H
      clear H
      go_wp2
      go_meet
      case rel => exact ⟨_, (true), (by first | rfl | (simp; done) | (simp [*]; done) | (simp [bne_nil_]; done)), H', ⟨by first | omega | exact Nat.le_refl _⟩, ⟨by (with_reducible repeat (first | refine blk_drewN ?_ _ | refine blk_drew ?_ | refine blk_alloc ?_ _)); exact BK103.out⟩, ⟨by repeat (first | (with_reducible first | exact HB.out | apply below_alloc | apply pw_below_drewN | apply below_drew1 | refine below_set ?_ GE103.out) | exact HB.out)⟩⟩
  case rest =>
    clear HC3
    try clear c1
    try clear c2
    try clear p2
    try clear c5
    obtain ⟨kq, x21_2, rfl, HA, HJ2, BK103, HB⟩ := hcut
    cases kq with
    | zero => exact absurd HA.out (by simp [semantic_ParseRedHatVersion.j0])
    | succ kj2 =>
      have H := HA.out
      clear HA
      simp only [semantic_ParseRedHatVersion.j0] at H
      have HC8 := Aside0.mk H
      clear H
      go_upto_if 21 with (fail)
      go_cut [3, 4] (fun v3 v4 wc => ∃ (kq : Nat) (x3_7 : ByteArray) (x4_7 : ByteArray), v3 = .string x3_7 ∧ v4 = .string x4_7 ∧ Aside0 (semantic_ParseRedHatVersion.j1 kq x3_7 x4_7 = some (r1, r2, r3)) ∧ Aside0 (kq ≤ kj2) ∧ Aside0 (wc.heap[gb103]? = some (.cells #[.string (⟨#[]⟩ : ByteArray), .string (⟨#[]⟩ : ByteArray), .string (⟨#[]⟩ : ByteArray)] 42 (0, 0))) ∧ Aside0 (Below w.heap.size w wc))
      case first =>
        have H := HC8.out
        clear HC8
        by_cases c9 : x21_2 = true
        · subst c9
          have H1 : (semantic_ParseRedHatVersion.j1 kj2 (⟨#[]⟩ : ByteArray) a0) = some (r1, r2, r3) := by rw [if_pos rfl] at H; exact H
          clear H
          have H := H1
          clear H1
          have H' := Aside0.mk H
          clear H
          go_wp2
          go_meet
          case rel => exact ⟨_, ((⟨#[]⟩ : ByteArray)), (a0), (by first | rfl | (simp; done) | (simp [*]; done) | (simp [bne_nil_]; done)), (by first | rfl | (simp; done) | (simp [*]; done) | (simp [bne_nil_]; done)), H', ⟨by have := HJ2.out; first | omega | exact Nat.le_refl _⟩, ⟨by (with_reducible repeat (first | refine blk_drewN ?_ _ | refine blk_drew ?_ | refine blk_alloc ?_ _)); exact BK103.out⟩, ⟨by repeat (first | (with_reducible first | exact HB.out | apply below_alloc | apply pw_below_drewN | apply below_drew1 | refine below_set ?_ GE103.out) | exact HB.out)⟩⟩
        · replace c9 := Bool.eq_false_iff.mpr c9
          subst c9
          have H1 : (semantic_ParseRedHatVersion.j1 kj2 t104 t105) = some (r1, r2, r3) := by rw [if_neg (show ¬ (false = true) by decide)] at H; exact H
          clear H
          have H := H1
          clear H1
          have H' := Aside0.mk H
          clear H
          go_wp2
          go_meet
          case rel => exact ⟨_, (t104), (t105), (by first | rfl | (simp; done) | (simp [*]; done) | (simp [bne_nil_]; done)), (by first | rfl | (simp; done) | (simp [*]; done) | (simp [bne_nil_]; done)), H', ⟨by have := HJ2.out; first | omega | exact Nat.le_refl _⟩, ⟨by (with_reducible repeat (first | refine blk_drewN ?_ _ | refine blk_drew ?_ | refine blk_alloc ?_ _)); exact BK103.out⟩, ⟨by repeat (first | (with_reducible first | exact HB.out | apply below_alloc | apply pw_below_drewN | apply below_drew1 | refine below_set ?_ GE103.out) | exact HB.out)⟩⟩
      case rest =>
        clear HC8
        try clear c1
        try clear c2
        try clear p2
        try clear c5
        try clear c9
        try clear p2
        obtain ⟨kq, x3_7, x4_7, rfl, rfl, HA, HJ7, BK103, HB⟩ := hcut
        cases kq with
        | zero => exact absurd HA.out (by simp [semantic_ParseRedHatVersion.j1])
        | succ kj7 =>
          have H := HA.out
          clear HA
          simp only [semantic_ParseRedHatVersion.j1] at H
          replace H := Option.bind_eq_some_iff.mp H
          obtain ⟨⟨t108, t109, t110⟩, A100, H⟩ := H
          replace H : (if t110 = true then (if 1 + t109.size ≤ 9223372036854775807 then (if x3_7.toList = ([] : List UInt8) then (some ((⟨#[48]⟩ : ByteArray), t108, (⟨#[45]⟩ : ByteArray) ++ t109)) else (some (x3_7, t108, (⟨#[45]⟩ : ByteArray) ++ t109))) else (none)) else (if x3_7.toList = ([] : List UInt8) then (some ((⟨#[48]⟩ : ByteArray), t108, t109)) else (some (x3_7, t108, t109)))) = some (r1, r2, r3) := H
          have A10 := Aside0.mk A100
          clear A100
          by_cases c11 : t110 = true
          · subst c11
            have H1 : (if 1 + t109.size ≤ 9223372036854775807 then (if x3_7.toList = ([] : List UInt8) then (some ((⟨#[48]⟩ : ByteArray), t108, (⟨#[45]⟩ : ByteArray) ++ t109)) else (some (x3_7, t108, (⟨#[45]⟩ : ByteArray) ++ t109))) else (none)) = some (r1, r2, r3) := by rw [if_pos rfl] at H; exact H
            clear H
            have H := H1
            clear H1
            by_cases c12 : 1 + t109.size ≤ 9223372036854775807
            · rw [if_pos c12] at H
              have c12b0 := eq_true c12
              have c12b1 : decide (1 + t109.size ≤ 9223372036854775807) = true := decide_eq_true c12
              try have c12b2 : (9223372036854775807 < 1 + t109.size) = False := eq_false (Nat.not_lt.2 c12)
              by_cases c13 : x3_7.toList = ([] : List UInt8)
              · rw [if_pos c13] at H
                have c13b0 : (x3_7.toList == ([] : List UInt8)) = true := beq_iff_eq.mpr c13
                have c13b1 : (x3_7.toList != ([] : List UInt8)) = false := bne_eq_false_iff_eq.mpr c13
                clear c13
                simp only [Option.some.injEq, Prod.mk.injEq] at H
                obtain ⟨rfl, rfl, rfl⟩ := H
                go_wp2_with (first | ((with_reducible refine gate_callee (f := 24) rfl ?_); refine goesL_ (some 25) rfl rfl Tryd.func24 (by kernel_rfl) rfl #[.string x4_7, .string (⟨#[45]⟩ : ByteArray)] rfl (by (try simp only [List.map_toArray, List.map_cons, List.map_nil]); first | done | rfl | (simp only [List.length_drop, List.length_take]; rfl)) ?_; (with_reducible refine (semantic_zzCut.calls kj7 x4_7 (⟨#[45]⟩ : ByteArray) t108 t109 true _ A10.out).mono ?_); rintro e w' ⟨rfl, ⟨nd, rfl⟩⟩; refine ⟨_, rfl, ?_⟩; (try (rw [drewN_self wc]; generalize hq_ : World.drewN wc _ = wc; have n0_ : Aside0 (wc.heap[gb103]? = some (.cells #[.string (⟨#[]⟩ : ByteArray), .string (⟨#[]⟩ : ByteArray), .string (⟨#[]⟩ : ByteArray)] 42 (0, 0))) := ⟨by rw [← hq_]; exact (by (with_reducible repeat (first | refine blk_drewN ?_ _ | refine blk_drew ?_ | refine blk_alloc ?_ _)); exact BK103.out)⟩; have n1_ : Aside0 (Below w.heap.size w wc) := ⟨by rw [← hq_]; exact (by repeat (first | (with_reducible first | exact HB.out | apply below_alloc | apply pw_below_drewN | apply below_drew1 | refine below_set ?_ GE103.out) | exact HB.out))⟩; clear BK103 HB hq_; have BK103 := n0_; have HB := n1_; clear n0_ n1_)); have hcz14_0 : wc.cell? ⟨gb103, 0, none⟩ = some (.string (⟨#[]⟩ : ByteArray)) := (blk_cell BK103.out 0).trans rfl; have hcz14_1 : wc.cell? ⟨gb103, 1, none⟩ = some (.string (⟨#[]⟩ : ByteArray)) := (blk_cell BK103.out 1).trans rfl; have hcz14_2 : wc.cell? ⟨gb103, 2, none⟩ = some (.string (⟨#[]⟩ : ByteArray)) := (blk_cell BK103.out 2).trans rfl; have hfz14_0 := blk_frozen BK103.out 0; have hfz14_1 := blk_frozen BK103.out 1; have hfz14_2 := blk_frozen BK103.out 2))
                refine bodyPost_ret (results_cell_row rfl _ _ gb103 42 #[.string (⟨#[48]⟩ : ByteArray), .string t108, .string ((⟨#[45]⟩ : ByteArray) ++ t109)] (0, 0) _ rfl (by (with_reducible repeat (first | refine blk_drewN ?_ _ | refine blk_drew ?_ | refine blk_alloc ?_ _)); refine blk_put (cs := #[.string (⟨#[48]⟩ : ByteArray), .string t108, .string (⟨#[]⟩ : ByteArray)]) ?_ 2 _ rfl; (with_reducible repeat (first | refine blk_drewN ?_ _ | refine blk_drew ?_ | refine blk_alloc ?_ _)); refine blk_put (cs := #[.string (⟨#[48]⟩ : ByteArray), .string (⟨#[]⟩ : ByteArray), .string (⟨#[]⟩ : ByteArray)]) ?_ 1 _ rfl; (with_reducible repeat (first | refine blk_drewN ?_ _ | refine blk_drew ?_ | refine blk_alloc ?_ _)); refine blk_put (cs := #[.string (⟨#[]⟩ : ByteArray), .string (⟨#[]⟩ : ByteArray), .string (⟨#[]⟩ : ByteArray)]) ?_ 0 _ rfl; (with_reducible repeat (first | refine blk_drewN ?_ _ | refine blk_drew ?_ | refine blk_alloc ?_ _)); exact BK103.out) Tryd.underlying42 rfl (by kernel_rfl)) rfl ?_
                exact ⟨by first | rfl | (simp [errW_none, errW_some] <;> rfl) | (simp [*, errW_none, errW_some] <;> rfl) | (simp [bne_nil_]; done), by repeat (first | (with_reducible first | exact HB.out | apply below_alloc | apply pw_below_drewN | apply below_drew1 | refine below_set ?_ GE103.out) | exact HB.out)⟩
              · rw [if_neg c13] at H
                have c13b0 : (x3_7.toList == ([] : List UInt8)) = false := beq_eq_false_iff_ne.mpr c13
                have c13b1 : (x3_7.toList != ([] : List UInt8)) = true := bne_iff_ne.mpr c13
                simp only [Option.some.injEq, Prod.mk.injEq] at H
                obtain ⟨rfl, rfl, rfl⟩ := H
                go_wp2_with (first | ((with_reducible refine gate_callee (f := 24) rfl ?_); refine goesL_ (some 25) rfl rfl Tryd.func24 (by kernel_rfl) rfl #[.string x4_7, .string (⟨#[45]⟩ : ByteArray)] rfl (by (try simp only [List.map_toArray, List.map_cons, List.map_nil]); first | done | rfl | (simp only [List.length_drop, List.length_take]; rfl)) ?_; (with_reducible refine (semantic_zzCut.calls kj7 x4_7 (⟨#[45]⟩ : ByteArray) t108 t109 true _ A10.out).mono ?_); rintro e w' ⟨rfl, ⟨nd, rfl⟩⟩; refine ⟨_, rfl, ?_⟩; (try (rw [drewN_self wc]; generalize hq_ : World.drewN wc _ = wc; have n0_ : Aside0 (wc.heap[gb103]? = some (.cells #[.string (⟨#[]⟩ : ByteArray), .string (⟨#[]⟩ : ByteArray), .string (⟨#[]⟩ : ByteArray)] 42 (0, 0))) := ⟨by rw [← hq_]; exact (by (with_reducible repeat (first | refine blk_drewN ?_ _ | refine blk_drew ?_ | refine blk_alloc ?_ _)); exact BK103.out)⟩; have n1_ : Aside0 (Below w.heap.size w wc) := ⟨by rw [← hq_]; exact (by repeat (first | (with_reducible first | exact HB.out | apply below_alloc | apply pw_below_drewN | apply below_drew1 | refine below_set ?_ GE103.out) | exact HB.out))⟩; clear BK103 HB hq_; have BK103 := n0_; have HB := n1_; clear n0_ n1_)); have hcz15_0 : wc.cell? ⟨gb103, 0, none⟩ = some (.string (⟨#[]⟩ : ByteArray)) := (blk_cell BK103.out 0).trans rfl; have hcz15_1 : wc.cell? ⟨gb103, 1, none⟩ = some (.string (⟨#[]⟩ : ByteArray)) := (blk_cell BK103.out 1).trans rfl; have hcz15_2 : wc.cell? ⟨gb103, 2, none⟩ = some (.string (⟨#[]⟩ : ByteArray)) := (blk_cell BK103.out 2).trans rfl; have hfz15_0 := blk_frozen BK103.out 0; have hfz15_1 := blk_frozen BK103.out 1; have hfz15_2 := blk_frozen BK103.out 2))
                refine bodyPost_ret (results_cell_row rfl _ _ gb103 42 #[.string x3_7, .string t108, .string ((⟨#[45]⟩ : ByteArray) ++ t109)] (0, 0) _ rfl (by (with_reducible repeat (first | refine blk_drewN ?_ _ | refine blk_drew ?_ | refine blk_alloc ?_ _)); refine blk_put (cs := #[.string x3_7, .string t108, .string (⟨#[]⟩ : ByteArray)]) ?_ 2 _ rfl; (with_reducible repeat (first | refine blk_drewN ?_ _ | refine blk_drew ?_ | refine blk_alloc ?_ _)); refine blk_put (cs := #[.string x3_7, .string (⟨#[]⟩ : ByteArray), .string (⟨#[]⟩ : ByteArray)]) ?_ 1 _ rfl; (with_reducible repeat (first | refine blk_drewN ?_ _ | refine blk_drew ?_ | refine blk_alloc ?_ _)); refine blk_put (cs := #[.string (⟨#[]⟩ : ByteArray), .string (⟨#[]⟩ : ByteArray), .string (⟨#[]⟩ : ByteArray)]) ?_ 0 _ rfl; (with_reducible repeat (first | refine blk_drewN ?_ _ | refine blk_drew ?_ | refine blk_alloc ?_ _)); exact BK103.out) Tryd.underlying42 rfl (by kernel_rfl)) rfl ?_
                exact ⟨by first | rfl | (simp [errW_none, errW_some] <;> rfl) | (simp [*, errW_none, errW_some] <;> rfl) | (simp [bne_nil_]; done), by repeat (first | (with_reducible first | exact HB.out | apply below_alloc | apply pw_below_drewN | apply below_drew1 | refine below_set ?_ GE103.out) | exact HB.out)⟩
            · rw [if_neg c12] at H
              exact absurd H (by simp)
          · replace c11 := Bool.eq_false_iff.mpr c11
            subst c11
            have H1 : (if x3_7.toList = ([] : List UInt8) then (some ((⟨#[48]⟩ : ByteArray), t108, t109)) else (some (x3_7, t108, t109))) = some (r1, r2, r3) := by rw [if_neg (show ¬ (false = true) by decide)] at H; exact H
            clear H
            have H := H1
            clear H1
            by_cases c16 : x3_7.toList = ([] : List UInt8)
            · rw [if_pos c16] at H
              have c16b0 : (x3_7.toList == ([] : List UInt8)) = true := beq_iff_eq.mpr c16
              have c16b1 : (x3_7.toList != ([] : List UInt8)) = false := bne_eq_false_iff_eq.mpr c16
              clear c16
              simp only [Option.some.injEq, Prod.mk.injEq] at H
              obtain ⟨rfl, rfl, rfl⟩ := H
              go_wp2_with (first | ((with_reducible refine gate_callee (f := 24) rfl ?_); refine goesL_ (some 25) rfl rfl Tryd.func24 (by kernel_rfl) rfl #[.string x4_7, .string (⟨#[45]⟩ : ByteArray)] rfl (by (try simp only [List.map_toArray, List.map_cons, List.map_nil]); first | done | rfl | (simp only [List.length_drop, List.length_take]; rfl)) ?_; (with_reducible refine (semantic_zzCut.calls kj7 x4_7 (⟨#[45]⟩ : ByteArray) t108 t109 false _ A10.out).mono ?_); rintro e w' ⟨rfl, ⟨nd, rfl⟩⟩; refine ⟨_, rfl, ?_⟩; (try (rw [drewN_self wc]; generalize hq_ : World.drewN wc _ = wc; have n0_ : Aside0 (wc.heap[gb103]? = some (.cells #[.string (⟨#[]⟩ : ByteArray), .string (⟨#[]⟩ : ByteArray), .string (⟨#[]⟩ : ByteArray)] 42 (0, 0))) := ⟨by rw [← hq_]; exact (by (with_reducible repeat (first | refine blk_drewN ?_ _ | refine blk_drew ?_ | refine blk_alloc ?_ _)); exact BK103.out)⟩; have n1_ : Aside0 (Below w.heap.size w wc) := ⟨by rw [← hq_]; exact (by repeat (first | (with_reducible first | exact HB.out | apply below_alloc | apply pw_below_drewN | apply below_drew1 | refine below_set ?_ GE103.out) | exact HB.out))⟩; clear BK103 HB hq_; have BK103 := n0_; have HB := n1_; clear n0_ n1_)); have hcz17_0 : wc.cell? ⟨gb103, 0, none⟩ = some (.string (⟨#[]⟩ : ByteArray)) := (blk_cell BK103.out 0).trans rfl; have hcz17_1 : wc.cell? ⟨gb103, 1, none⟩ = some (.string (⟨#[]⟩ : ByteArray)) := (blk_cell BK103.out 1).trans rfl; have hcz17_2 : wc.cell? ⟨gb103, 2, none⟩ = some (.string (⟨#[]⟩ : ByteArray)) := (blk_cell BK103.out 2).trans rfl; have hfz17_0 := blk_frozen BK103.out 0; have hfz17_1 := blk_frozen BK103.out 1; have hfz17_2 := blk_frozen BK103.out 2))
              refine bodyPost_ret (results_cell_row rfl _ _ gb103 42 #[.string (⟨#[48]⟩ : ByteArray), .string t108, .string t109] (0, 0) _ rfl (by (with_reducible repeat (first | refine blk_drewN ?_ _ | refine blk_drew ?_ | refine blk_alloc ?_ _)); refine blk_put (cs := #[.string (⟨#[48]⟩ : ByteArray), .string t108, .string (⟨#[]⟩ : ByteArray)]) ?_ 2 _ rfl; (with_reducible repeat (first | refine blk_drewN ?_ _ | refine blk_drew ?_ | refine blk_alloc ?_ _)); refine blk_put (cs := #[.string (⟨#[48]⟩ : ByteArray), .string (⟨#[]⟩ : ByteArray), .string (⟨#[]⟩ : ByteArray)]) ?_ 1 _ rfl; (with_reducible repeat (first | refine blk_drewN ?_ _ | refine blk_drew ?_ | refine blk_alloc ?_ _)); refine blk_put (cs := #[.string (⟨#[]⟩ : ByteArray), .string (⟨#[]⟩ : ByteArray), .string (⟨#[]⟩ : ByteArray)]) ?_ 0 _ rfl; (with_reducible repeat (first | refine blk_drewN ?_ _ | refine blk_drew ?_ | refine blk_alloc ?_ _)); exact BK103.out) Tryd.underlying42 rfl (by kernel_rfl)) rfl ?_
              exact ⟨by first | rfl | (simp [errW_none, errW_some] <;> rfl) | (simp [*, errW_none, errW_some] <;> rfl) | (simp [bne_nil_]; done), by repeat (first | (with_reducible first | exact HB.out | apply below_alloc | apply pw_below_drewN | apply below_drew1 | refine below_set ?_ GE103.out) | exact HB.out)⟩
            · rw [if_neg c16] at H
              have c16b0 : (x3_7.toList == ([] : List UInt8)) = false := beq_eq_false_iff_ne.mpr c16
              have c16b1 : (x3_7.toList != ([] : List UInt8)) = true := bne_iff_ne.mpr c16
              simp only [Option.some.injEq, Prod.mk.injEq] at H
              obtain ⟨rfl, rfl, rfl⟩ := H
              go_wp2_with (first | ((with_reducible refine gate_callee (f := 24) rfl ?_); refine goesL_ (some 25) rfl rfl Tryd.func24 (by kernel_rfl) rfl #[.string x4_7, .string (⟨#[45]⟩ : ByteArray)] rfl (by (try simp only [List.map_toArray, List.map_cons, List.map_nil]); first | done | rfl | (simp only [List.length_drop, List.length_take]; rfl)) ?_; (with_reducible refine (semantic_zzCut.calls kj7 x4_7 (⟨#[45]⟩ : ByteArray) t108 t109 false _ A10.out).mono ?_); rintro e w' ⟨rfl, ⟨nd, rfl⟩⟩; refine ⟨_, rfl, ?_⟩; (try (rw [drewN_self wc]; generalize hq_ : World.drewN wc _ = wc; have n0_ : Aside0 (wc.heap[gb103]? = some (.cells #[.string (⟨#[]⟩ : ByteArray), .string (⟨#[]⟩ : ByteArray), .string (⟨#[]⟩ : ByteArray)] 42 (0, 0))) := ⟨by rw [← hq_]; exact (by (with_reducible repeat (first | refine blk_drewN ?_ _ | refine blk_drew ?_ | refine blk_alloc ?_ _)); exact BK103.out)⟩; have n1_ : Aside0 (Below w.heap.size w wc) := ⟨by rw [← hq_]; exact (by repeat (first | (with_reducible first | exact HB.out | apply below_alloc | apply pw_below_drewN | apply below_drew1 | refine below_set ?_ GE103.out) | exact HB.out))⟩; clear BK103 HB hq_; have BK103 := n0_; have HB := n1_; clear n0_ n1_)); have hcz18_0 : wc.cell? ⟨gb103, 0, none⟩ = some (.string (⟨#[]⟩ : ByteArray)) := (blk_cell BK103.out 0).trans rfl; have hcz18_1 : wc.cell? ⟨gb103, 1, none⟩ = some (.string (⟨#[]⟩ : ByteArray)) := (blk_cell BK103.out 1).trans rfl; have hcz18_2 : wc.cell? ⟨gb103, 2, none⟩ = some (.string (⟨#[]⟩ : ByteArray)) := (blk_cell BK103.out 2).trans rfl; have hfz18_0 := blk_frozen BK103.out 0; have hfz18_1 := blk_frozen BK103.out 1; have hfz18_2 := blk_frozen BK103.out 2))
              refine bodyPost_ret (results_cell_row rfl _ _ gb103 42 #[.string x3_7, .string t108, .string t109] (0, 0) _ rfl (by (with_reducible repeat (first | refine blk_drewN ?_ _ | refine blk_drew ?_ | refine blk_alloc ?_ _)); refine blk_put (cs := #[.string x3_7, .string t108, .string (⟨#[]⟩ : ByteArray)]) ?_ 2 _ rfl; (with_reducible repeat (first | refine blk_drewN ?_ _ | refine blk_drew ?_ | refine blk_alloc ?_ _)); refine blk_put (cs := #[.string x3_7, .string (⟨#[]⟩ : ByteArray), .string (⟨#[]⟩ : ByteArray)]) ?_ 1 _ rfl; (with_reducible repeat (first | refine blk_drewN ?_ _ | refine blk_drew ?_ | refine blk_alloc ?_ _)); refine blk_put (cs := #[.string (⟨#[]⟩ : ByteArray), .string (⟨#[]⟩ : ByteArray), .string (⟨#[]⟩ : ByteArray)]) ?_ 0 _ rfl; (with_reducible repeat (first | refine blk_drewN ?_ _ | refine blk_drew ?_ | refine blk_alloc ?_ _)); exact BK103.out) Tryd.underlying42 rfl (by kernel_rfl)) rfl ?_
              exact ⟨by first | rfl | (simp [errW_none, errW_some] <;> rfl) | (simp [*, errW_none, errW_some] <;> rfl) | (simp [bne_nil_]; done), by repeat (first | (with_reducible first | exact HB.out | apply below_alloc | apply pw_below_drewN | apply below_drew1 | refine below_set ?_ GE103.out) | exact HB.out)⟩

/-! ### semantic_isASCIILetter: function 42 -/
def semantic_isASCIILetter.f (a0 : Int) : Option (Bool) := if a0 ≥ 65 then (if a0 ≤ 90 then (some true) else (if a0 ≥ 97 then (some (decide (a0 ≤ 122))) else (some false))) else (if a0 ≥ 97 then (some (decide (a0 ≤ 122))) else (some false))
set_option maxHeartbeats 8000000 in
set_option maxRecDepth 100000 in
theorem semantic_isASCIILetter.calls (a0 : Int) (r : Bool) (w : World) (h : semantic_isASCIILetter.f a0 = some r) :
    Calls Tryd.prog 42 #[.int .i32 a0] w fun e w' => e = .returned (.bool r) ∧ Drawn0 w w' := by
  have H : (if a0 ≥ 65 then (if a0 ≤ 90 then (some true) else (if a0 ≥ 97 then (some (decide (a0 ≤ 122))) else (some false))) else (if a0 ≥ 97 then (some (decide (a0 ≤ 122))) else (some false))) = some r := h
  clear h
  by_cases c2 : a0 ≥ 65
  · rw [if_pos c2] at H
    have c2b0 : decide (65 ≤ a0) = true := decide_eq_true c2
    clear c2
    by_cases c3 : a0 ≤ 90
    · rw [if_pos c3] at H
      have c3b0 : decide (a0 ≤ 90) = true := decide_eq_true c3
      clear c3
      obtain rfl := Option.some.inj H
      go_enter Tryd.func42, Tryd.ntmps42
      go_wp2
      go_ret
      exact ⟨by first | rfl | (simp; done) | (simp [*]; done) | (simp [bne_nil_]; done), by repeat (first | exact Drawn0.refl _ | apply Drawn0.step)⟩
    · rw [if_neg c3] at H
      have c3b0 : decide (a0 ≤ 90) = false := decide_eq_false c3
      clear c3
      by_cases c4 : a0 ≥ 97
      · rw [if_pos c4] at H
        have c4b0 : decide (97 ≤ a0) = true := decide_eq_true c4
        clear c4
        obtain rfl := Option.some.inj H
        go_enter Tryd.func42, Tryd.ntmps42
        go_wp2
        go_ret
        exact ⟨by first | rfl | (simp; done) | (simp [*]; done) | (simp [bne_nil_]; done), by repeat (first | exact Drawn0.refl _ | apply Drawn0.step)⟩
      · rw [if_neg c4] at H
        have c4b0 : decide (97 ≤ a0) = false := decide_eq_false c4
        clear c4
        obtain rfl := Option.some.inj H
        go_enter Tryd.func42, Tryd.ntmps42
        go_wp2
        go_ret
        exact ⟨by first | rfl | (simp; done) | (simp [*]; done) | (simp [bne_nil_]; done), by repeat (first | exact Drawn0.refl _ | apply Drawn0.step)⟩
  · rw [if_neg c2] at H
    have c2b0 : decide (65 ≤ a0) = false := decide_eq_false c2
    clear c2
    by_cases c5 : a0 ≥ 97
    · rw [if_pos c5] at H
      have c5b0 : decide (97 ≤ a0) = true := decide_eq_true c5
      clear c5
      obtain rfl := Option.some.inj H
      go_enter Tryd.func42, Tryd.ntmps42
      go_wp2
      go_ret
      exact ⟨by first | rfl | (simp; done) | (simp [*]; done) | (simp [bne_nil_]; done), by repeat (first | exact Drawn0.refl _ | apply Drawn0.step)⟩
    · rw [if_neg c5] at H
      have c5b0 : decide (97 ≤ a0) = false := decide_eq_false c5
      clear c5
      obtain rfl := Option.some.inj H
      go_enter Tryd.func42, Tryd.ntmps42
      go_wp2
      go_ret
      exact ⟨by first | rfl | (simp; done) | (simp [*]; done) | (simp [bne_nil_]; done), by repeat (first | exact Drawn0.refl _ | apply Drawn0.step)⟩

/-! ### semantic_shouldBeTrimmed: function 41 -/
def semantic_shouldBeTrimmed.f (a0 : Int) : Option (Bool) := (semantic_isASCIILetter.f a0).bind fun t111 => (if t111 = true then (some false) else ((semantic_isASCIIDigit.f a0).bind fun t112 => (if t112 = true then (some false) else (if a0 = 126 then (some false) else (some (a0 != 94))))))
set_option maxHeartbeats 8000000 in
set_option maxRecDepth 100000 in
theorem semantic_shouldBeTrimmed.calls (a0 : Int) (r : Bool) (w : World) (h : semantic_shouldBeTrimmed.f a0 = some r) :
    Calls Tryd.prog 41 #[.int .i32 a0] w fun e w' => e = .returned (.bool r) ∧ Drawn0 w w' := by
  have H : ((semantic_isASCIILetter.f a0).bind fun t111 => (if t111 = true then (some false) else ((semantic_isASCIIDigit.f a0).bind fun t112 => (if t112 = true then (some false) else (if a0 = 126 then (some false) else (some (a0 != 94))))))) = some r := h
  clear h
  replace H := Option.bind_eq_some_iff.mp H
  obtain ⟨t111, A20, H⟩ := H
  replace H : (if t111 = true then (some false) else ((semantic_isASCIIDigit.f a0).bind fun t112 => (if t112 = true then (some false) else (if a0 = 126 then (some false) else (some (a0 != 94)))))) = some r := H
  have A2 := Aside0.mk A20
  clear A20
  by_cases c3 : t111 = true
  · subst c3
    have H1 : (some false) = some r := by rw [if_pos rfl] at H; exact H
    clear H
    have H := H1
    clear H1
    obtain rfl := Option.some.inj H
    go_enter Tryd.func41, Tryd.ntmps41
    go_wp2_with (first | ((with_reducible refine gate_callee (f := 42) rfl ?_); refine goesL_ (some 4) rfl rfl Tryd.func42 (by kernel_rfl) rfl #[.int .i32 a0] rfl (by (try simp only [List.map_toArray, List.map_cons, List.map_nil]); first | done | rfl | (simp only [List.length_drop, List.length_take]; rfl)) ?_; (with_reducible refine (semantic_isASCIILetter.calls a0 true _ A2.out).mono ?_); rintro e w' ⟨rfl, ⟨nd, rfl⟩⟩; refine ⟨_, rfl, ?_⟩))
    go_ret
    exact ⟨by first | rfl | (simp; done) | (simp [*]; done) | (simp [bne_nil_]; done), by repeat (first | exact Drawn0.refl _ | apply Drawn0.step)⟩
  · replace c3 := Bool.eq_false_iff.mpr c3
    subst c3
    have H1 : ((semantic_isASCIIDigit.f a0).bind fun t112 => (if t112 = true then (some false) else (if a0 = 126 then (some false) else (some (a0 != 94))))) = some r := by rw [if_neg (show ¬ (false = true) by decide)] at H; exact H
    clear H
    have H := H1
    clear H1
    replace H := Option.bind_eq_some_iff.mp H
    obtain ⟨t112, A40, H⟩ := H
    replace H : (if t112 = true then (some false) else (if a0 = 126 then (some false) else (some (a0 != 94)))) = some r := H
    have A4 := Aside0.mk A40
    clear A40
    by_cases c5 : t112 = true
    · subst c5
      have H1 : (some false) = some r := by rw [if_pos rfl] at H; exact H
      clear H
      have H := H1
      clear H1
      obtain rfl := Option.some.inj H
      go_enter Tryd.func41, Tryd.ntmps41
      go_wp2_with (first | ((with_reducible refine gate_callee (f := 42) rfl ?_); refine goesL_ (some 4) rfl rfl Tryd.func42 (by kernel_rfl) rfl #[.int .i32 a0] rfl (by (try simp only [List.map_toArray, List.map_cons, List.map_nil]); first | done | rfl | (simp only [List.length_drop, List.length_take]; rfl)) ?_; (with_reducible refine (semantic_isASCIILetter.calls a0 false _ A2.out).mono ?_); rintro e w' ⟨rfl, ⟨nd, rfl⟩⟩; refine ⟨_, rfl, ?_⟩) | (go_at_call 35; (with_reducible refine (semantic_isASCIIDigit.calls a0 true _ A4.out).mono ?_); rintro e w' ⟨rfl, ⟨nd, rfl⟩⟩))
      go_ret
      exact ⟨by first | rfl | (simp; done) | (simp [*]; done) | (simp [bne_nil_]; done), by repeat (first | exact Drawn0.refl _ | apply Drawn0.step)⟩
    · replace c5 := Bool.eq_false_iff.mpr c5
      subst c5
      have H1 : (if a0 = 126 then (some false) else (some (a0 != 94))) = some r := by rw [if_neg (show ¬ (false = true) by decide)] at H; exact H
      clear H
      have H := H1
      clear H1
      by_cases c6 : a0 = 126
      · rw [if_pos c6] at H
        have c6b0 : (a0 == 126) = true := beq_iff_eq.mpr c6
        have c6b1 : (a0 != 126) = false := bne_eq_false_iff_eq.mpr c6
        clear c6
        obtain rfl := Option.some.inj H
        go_enter Tryd.func41, Tryd.ntmps41
        go_wp2_with (first | ((with_reducible refine gate_callee (f := 42) rfl ?_); refine goesL_ (some 4) rfl rfl Tryd.func42 (by kernel_rfl) rfl #[.int .i32 a0] rfl (by (try simp only [List.map_toArray, List.map_cons, List.map_nil]); first | done | rfl | (simp only [List.length_drop, List.length_take]; rfl)) ?_; (with_reducible refine (semantic_isASCIILetter.calls a0 false _ A2.out).mono ?_); rintro e w' ⟨rfl, ⟨nd, rfl⟩⟩; refine ⟨_, rfl, ?_⟩) | (go_at_call 35; (with_reducible refine (semantic_isASCIIDigit.calls a0 false _ A4.out).mono ?_); rintro e w' ⟨rfl, ⟨nd, rfl⟩⟩))
        go_ret
        exact ⟨by first | rfl | (simp; done) | (simp [*]; done) | (simp [bne_nil_]; done), by repeat (first | exact Drawn0.refl _ | apply Drawn0.step)⟩
      · rw [if_neg c6] at H
        have c6b0 : (a0 == 126) = false := beq_eq_false_iff_ne.mpr c6
        have c6b1 : (a0 != 126) = true := bne_iff_ne.mpr c6
        obtain rfl := Option.some.inj H
        go_enter Tryd.func41, Tryd.ntmps41
        go_wp2_with (first | ((with_reducible refine gate_callee (f := 42) rfl ?_); refine goesL_ (some 4) rfl rfl Tryd.func42 (by kernel_rfl) rfl #[.int .i32 a0] rfl (by (try simp only [List.map_toArray, List.map_cons, List.map_nil]); first | done | rfl | (simp only [List.length_drop, List.length_take]; rfl)) ?_; (with_reducible refine (semantic_isASCIILetter.calls a0 false _ A2.out).mono ?_); rintro e w' ⟨rfl, ⟨nd, rfl⟩⟩; refine ⟨_, rfl, ?_⟩) | (go_at_call 35; (with_reducible refine (semantic_isASCIIDigit.calls a0 false _ A4.out).mono ?_); rintro e w' ⟨rfl, ⟨nd, rfl⟩⟩))
        go_ret
        exact ⟨by first | rfl | (simp; done) | (simp [*]; done) | (simp [bne_nil_]; done), by repeat (first | exact Drawn0.refl _ | apply Drawn0.step)⟩

-- LEFT OUT: function 52

-- LEFT OUT: function 48

-- LEFT OUT: function 53

-- LEFT OUT: function 49

-- LEFT OUT: function 43

-- LEFT OUT: function 44

-- LEFT OUT: function 45

-- NOT PRINTED: function 50 (semantic_zzInSet)

-- NOT PRINTED: function 46 (semantic_zzTrimLeft)

-- LEFT OUT: function 54

-- LEFT OUT: function 51

-- NOT PRINTED: function 47 (strings_Compare)

-- GIVEN: function 33 (semantic_compareRedHatComponents)

/-! ### semantic_RedHatVersion_compare: function 26 -/
def semantic_RedHatVersion_compare.f (a0_0 : ByteArray) (a0_1 : ByteArray) (a0_2 : ByteArray) (a1_0 : ByteArray) (a1_1 : ByteArray) (a1_2 : ByteArray) : Option (Int) := (Giv.semantic_compareRedHatComponents.f a0_0 a1_0).bind fun t115 => (if t115 = 0 then ((Giv.semantic_compareRedHatComponents.f a0_1 a1_1).bind fun t116 => (if t116 = 0 then ((Giv.semantic_compareRedHatComponents.f a0_2 a1_2).bind fun t117 => (if t117 = 0 then (some 0) else (some t117))) else (some t116))) else (some t115))
set_option maxHeartbeats 8000000 in
set_option maxRecDepth 100000 in
theorem semantic_RedHatVersion_compare.calls (a0_0 : ByteArray) (a0_1 : ByteArray) (a0_2 : ByteArray) (a1_0 : ByteArray) (a1_1 : ByteArray) (a1_2 : ByteArray) (r : Int) (w : World) (h : semantic_RedHatVersion_compare.f a0_0 a0_1 a0_2 a1_0 a1_1 a1_2 = some r) :
    Calls Tryd.prog 26 #[.agg #[.string a0_0, .string a0_1, .string a0_2], .agg #[.string a1_0, .string a1_1, .string a1_2]] w fun e w' => e = .returned (.int .i64 r) ∧ Below w.heap.size w w' := by
  have hu42 := Tryd.underlying42
  have HB := Aside0.mk (Below.refl w.heap.size w)
  have H : ((Giv.semantic_compareRedHatComponents.f a0_0 a1_0).bind fun t115 => (if t115 = 0 then ((Giv.semantic_compareRedHatComponents.f a0_1 a1_1).bind fun t116 => (if t116 = 0 then ((Giv.semantic_compareRedHatComponents.f a0_2 a1_2).bind fun t117 => (if t117 = 0 then (some 0) else (some t117))) else (some t116))) else (some t115))) = some r := h
  clear h
  replace H := Option.bind_eq_some_iff.mp H
  obtain ⟨t115, A30, H⟩ := H
  replace H : (if t115 = 0 then ((Giv.semantic_compareRedHatComponents.f a0_1 a1_1).bind fun t116 => (if t116 = 0 then ((Giv.semantic_compareRedHatComponents.f a0_2 a1_2).bind fun t117 => (if t117 = 0 then (some 0) else (some t117))) else (some t116))) else (some t115)) = some r := H
  have A3 := Aside0.mk A30
  clear A30
  by_cases c4 : t115 = 0
  · rw [if_pos c4] at H
    have c4b0 : (t115 == 0) = true := beq_iff_eq.mpr c4
    have c4b1 : (t115 != 0) = false := bne_eq_false_iff_eq.mpr c4
    clear c4
    replace H := Option.bind_eq_some_iff.mp H
    obtain ⟨t116, A50, H⟩ := H
    replace H : (if t116 = 0 then ((Giv.semantic_compareRedHatComponents.f a0_2 a1_2).bind fun t117 => (if t117 = 0 then (some 0) else (some t117))) else (some t116)) = some r := H
    have A5 := Aside0.mk A50
    clear A50
    by_cases c6 : t116 = 0
    · rw [if_pos c6] at H
      have c6b0 : (t116 == 0) = true := beq_iff_eq.mpr c6
      have c6b1 : (t116 != 0) = false := bne_eq_false_iff_eq.mpr c6
      clear c6
      replace H := Option.bind_eq_some_iff.mp H
      obtain ⟨t117, A70, H⟩ := H
      replace H : (if t117 = 0 then (some 0) else (some t117)) = some r := H
      have A7 := Aside0.mk A70
      clear A70
      by_cases c8 : t117 = 0
      · rw [if_pos c8] at H
        have c8b0 : (t117 == 0) = true := beq_iff_eq.mpr c8
        have c8b1 : (t117 != 0) = false := bne_eq_false_iff_eq.mpr c8
        clear c8
        obtain rfl := Option.some.inj H
        go_enter Tryd.func26, Tryd.ntmps26
        go_wp2_with (first | ((with_reducible refine gate_dst (N := 2) rfl ?_); refine box_event ?hg (N := 2) ?hd (cs := #[.string a0_0, .string a0_1, .string a0_2]) (t := 42) ?hr ?_; (case hd => rfl); (case hg => rfl); (case hr => first | (go_simp; done) | (go_simp; rfl)); intro gb113 hg w9 hbox hb; have n0_ := Aside0.mk (below_step (by repeat (first | (with_reducible first | exact HB.out | apply below_alloc | apply pw_below_drewN | apply below_drew1) | exact HB.out)) hb); have n1_ := Aside0.mk (hbox); have n2_ := Aside0.mk ((by rw [hg]; exact (below_size (by repeat (first | (with_reducible first | exact HB.out | apply below_alloc | apply pw_below_drewN | apply below_drew1) | exact HB.out))) : w.heap.size ≤ gb113)); have n3_ := Aside0.mk ((by rw [hg]; exact (below_size (by repeat (first | (with_reducible first | exact HB.out | apply below_alloc | apply pw_below_drewN | apply below_drew1) | exact HB.out))) : w.heap.size ≤ gb113)); clear HB; have HB := n0_; have BK113 := n1_; have GW113 := n2_; have GE113 := n3_; clear n0_ n1_ n2_ n3_; clear hb hbox hg) | ((with_reducible refine gate_dst (N := 3) rfl ?_); refine box_event ?hg (N := 3) ?hd (cs := #[.string a1_0, .string a1_1, .string a1_2]) (t := 42) ?hr ?_; (case hd => rfl); (case hg => rfl); (case hr => first | (go_simp; done) | (go_simp; rfl)); intro gb114 hg w10 hbox hb; have n0_ := Aside0.mk (blk_below (g := gb113) (o := .cells #[.string a0_0, .string a0_1, .string a0_2] 42 (0, 0)) (by (with_reducible repeat (first | refine blk_drewN ?_ _ | refine blk_drew ?_ | refine blk_alloc ?_ _)); exact BK113.out) hb); have n1_ := Aside0.mk (below_step (by repeat (first | (with_reducible first | exact HB.out | apply below_alloc | apply pw_below_drewN | apply below_drew1 | refine below_set ?_ GE113.out) | exact HB.out)) hb); have n2_ := Aside0.mk (hbox); have n3_ := Aside0.mk ((by rw [hg]; exact (below_size (by repeat (first | (with_reducible first | exact HB.out | apply below_alloc | apply pw_below_drewN | apply below_drew1 | refine below_set ?_ GE113.out) | exact HB.out))) : w.heap.size ≤ gb114)); have n4_ := Aside0.mk ((by rw [hg]; exact (below_size (by repeat (first | (with_reducible first | exact HB.out | apply below_alloc | apply pw_below_drewN | apply below_drew1 | refine below_set ?_ GE113.out) | exact HB.out))) : w.heap.size ≤ gb114)); have n5_ := Aside0.mk ((by rw [hg]; exact Nat.ne_of_lt (blk_lt (g := gb113) (o := .cells #[.string a0_0, .string a0_1, .string a0_2] 42 (0, 0)) (by (with_reducible repeat (first | refine blk_drewN ?_ _ | refine blk_drew ?_ | refine blk_alloc ?_ _)); exact BK113.out)) : gb113 ≠ gb114)); have n6_ := Aside0.mk ((by rw [hg]; exact Nat.ne_of_gt (blk_lt (g := gb113) (o := .cells #[.string a0_0, .string a0_1, .string a0_2] 42 (0, 0)) (by (with_reducible repeat (first | refine blk_drewN ?_ _ | refine blk_drew ?_ | refine blk_alloc ?_ _)); exact BK113.out)) : gb114 ≠ gb113)); clear BK113; clear HB; have BK113 := n0_; have HB := n1_; have BK114 := n2_; have GW114 := n3_; have GE114 := n4_; have NB113_114 := n5_; have NB114_113 := n6_; clear n0_ n1_ n2_ n3_ n4_ n5_ n6_; clear hb hbox hg; have hnb11 := NB113_114.out; have hnc11 := NB114_113.out; have hcz12_0 : w10.cell? ⟨gb113, 0, none⟩ = some (.string a0_0) := (blk_cell BK113.out 0).trans rfl; have hcz12_1 : w10.cell? ⟨gb113, 1, none⟩ = some (.string a0_1) := (blk_cell BK113.out 1).trans rfl; have hcz12_2 : w10.cell? ⟨gb113, 2, none⟩ = some (.string a0_2) := (blk_cell BK113.out 2).trans rfl; have hfz12_0 := blk_frozen BK113.out 0; have hfz12_1 := blk_frozen BK113.out 1; have hfz12_2 := blk_frozen BK113.out 2; have hcz13_0 : w10.cell? ⟨gb114, 0, none⟩ = some (.string a1_0) := (blk_cell BK114.out 0).trans rfl; have hcz13_1 : w10.cell? ⟨gb114, 1, none⟩ = some (.string a1_1) := (blk_cell BK114.out 1).trans rfl; have hcz13_2 : w10.cell? ⟨gb114, 2, none⟩ = some (.string a1_2) := (blk_cell BK114.out 2).trans rfl; have hfz13_0 := blk_frozen BK114.out 0; have hfz13_1 := blk_frozen BK114.out 1; have hfz13_2 := blk_frozen BK114.out 2) | ((with_reducible refine gate_callee (f := 33) rfl ?_); refine goesL_ (some 12) rfl rfl Tryd.func33 (by kernel_rfl) rfl #[.string a0_0, .string a1_0] rfl (by (try simp only [List.map_toArray, List.map_cons, List.map_nil]); first | done | rfl | (simp only [List.length_drop, List.length_take]; rfl)) ?_; (with_reducible refine (Giv.semantic_compareRedHatComponents.calls a0_0 a1_0 t115 _ A3.out).mono ?_); rintro e w14 ⟨rfl, hb⟩; refine ⟨_, rfl, ?_⟩; have n0_ := Aside0.mk (blk_below (g := gb113) (o := .cells #[.string a0_0, .string a0_1, .string a0_2] 42 (0, 0)) (by (with_reducible repeat (first | refine blk_drewN ?_ _ | refine blk_drew ?_ | refine blk_alloc ?_ _)); exact BK113.out) hb); have n1_ := Aside0.mk (blk_below (g := gb114) (o := .cells #[.string a1_0, .string a1_1, .string a1_2] 42 (0, 0)) (by (with_reducible repeat (first | refine blk_drewN ?_ _ | refine blk_drew ?_ | refine blk_alloc ?_ _)); exact BK114.out) hb); have n2_ := Aside0.mk (below_step (by repeat (first | (with_reducible first | exact HB.out | apply below_alloc | apply pw_below_drewN | apply below_drew1 | refine below_set ?_ GE113.out | refine below_set ?_ GE114.out) | exact HB.out)) hb); clear BK113; clear BK114; clear HB; have BK113 := n0_; have BK114 := n1_; have HB := n2_; clear n0_ n1_ n2_; (try clear hb); (try clear hb2); (try clear hk); (try clear hi); have hcz15_0 : w14.cell? ⟨gb113, 0, none⟩ = some (.string a0_0) := (blk_cell BK113.out 0).trans rfl; have hcz15_1 : w14.cell? ⟨gb113, 1, none⟩ = some (.string a0_1) := (blk_cell BK113.out 1).trans rfl; have hcz15_2 : w14.cell? ⟨gb113, 2, none⟩ = some (.string a0_2) := (blk_cell BK113.out 2).trans rfl; have hfz15_0 := blk_frozen BK113.out 0; have hfz15_1 := blk_frozen BK113.out 1; have hfz15_2 := blk_frozen BK113.out 2; have hcz16_0 : w14.cell? ⟨gb114, 0, none⟩ = some (.string a1_0) := (blk_cell BK114.out 0).trans rfl; have hcz16_1 : w14.cell? ⟨gb114, 1, none⟩ = some (.string a1_1) := (blk_cell BK114.out 1).trans rfl; have hcz16_2 : w14.cell? ⟨gb114, 2, none⟩ = some (.string a1_2) := (blk_cell BK114.out 2).trans rfl; have hfz16_0 := blk_frozen BK114.out 0; have hfz16_1 := blk_frozen BK114.out 1; have hfz16_2 := blk_frozen BK114.out 2) | ((with_reducible refine gate_callee (f := 33) rfl ?_); refine goesL_ (some 20) rfl rfl Tryd.func33 (by kernel_rfl) rfl #[.string a0_1, .string a1_1] rfl (by (try simp only [List.map_toArray, List.map_cons, List.map_nil]); first | done | rfl | (simp only [List.length_drop, List.length_take]; rfl)) ?_; (with_reducible refine (Giv.semantic_compareRedHatComponents.calls a0_1 a1_1 t116 _ A5.out).mono ?_); rintro e w17 ⟨rfl, hb⟩; refine ⟨_, rfl, ?_⟩; have n0_ := Aside0.mk (blk_below (g := gb113) (o := .cells #[.string a0_0, .string a0_1, .string a0_2] 42 (0, 0)) (by (with_reducible repeat (first | refine blk_drewN ?_ _ | refine blk_drew ?_ | refine blk_alloc ?_ _)); exact BK113.out) hb); have n1_ := Aside0.mk (blk_below (g := gb114) (o := .cells #[.string a1_0, .string a1_1, .string a1_2] 42 (0, 0)) (by (with_reducible repeat (first | refine blk_drewN ?_ _ | refine blk_drew ?_ | refine blk_alloc ?_ _)); exact BK114.out) hb); have n2_ := Aside0.mk (below_step (by repeat (first | (with_reducible first | exact HB.out | apply below_alloc | apply pw_below_drewN | apply below_drew1 | refine below_set ?_ GE113.out | refine below_set ?_ GE114.out) | exact HB.out)) hb); clear BK113; clear BK114; clear HB; have BK113 := n0_; have BK114 := n1_; have HB := n2_; clear n0_ n1_ n2_; (try clear hb); (try clear hb2); (try clear hk); (try clear hi); have hcz18_0 : w17.cell? ⟨gb113, 0, none⟩ = some (.string a0_0) := (blk_cell BK113.out 0).trans rfl; have hcz18_1 : w17.cell? ⟨gb113, 1, none⟩ = some (.string a0_1) := (blk_cell BK113.out 1).trans rfl; have hcz18_2 : w17.cell? ⟨gb113, 2, none⟩ = some (.string a0_2) := (blk_cell BK113.out 2).trans rfl; have hfz18_0 := blk_frozen BK113.out 0; have hfz18_1 := blk_frozen BK113.out 1; have hfz18_2 := blk_frozen BK113.out 2; have hcz19_0 : w17.cell? ⟨gb114, 0, none⟩ = some (.string a1_0) := (blk_cell BK114.out 0).trans rfl; have hcz19_1 : w17.cell? ⟨gb114, 1, none⟩ = some (.string a1_1) := (blk_cell BK114.out 1).trans rfl; have hcz19_2 : w17.cell? ⟨gb114, 2, none⟩ = some (.string a1_2) := (blk_cell BK114.out 2).trans rfl; have hfz19_0 := blk_frozen BK114.out 0; have hfz19_1 := blk_frozen BK114.out 1; have hfz19_2 := blk_frozen BK114.out 2) | ((with_reducible refine gate_callee (f := 33) rfl ?_); refine goesL_ (some 28) rfl rfl Tryd.func33 (by kernel_rfl) rfl #[.string a0_2, .string a1_2] rfl (by (try simp only [List.map_toArray, List.map_cons, List.map_nil]); first | done | rfl | (simp only [List.length_drop, List.length_take]; rfl)) ?_; (with_reducible refine (Giv.semantic_compareRedHatComponents.calls a0_2 a1_2 t117 _ A7.out).mono ?_); rintro e w20 ⟨rfl, hb⟩; refine ⟨_, rfl, ?_⟩; have n0_ := Aside0.mk (blk_below (g := gb113) (o := .cells #[.string a0_0, .string a0_1, .string a0_2] 42 (0, 0)) (by (with_reducible repeat (first | refine blk_drewN ?_ _ | refine blk_drew ?_ | refine blk_alloc ?_ _)); exact BK113.out) hb); have n1_ := Aside0.mk (blk_below (g := gb114) (o := .cells #[.string a1_0, .string a1_1, .string a1_2] 42 (0, 0)) (by (with_reducible repeat (first | refine blk_drewN ?_ _ | refine blk_drew ?_ | refine blk_alloc ?_ _)); exact BK114.out) hb); have n2_ := Aside0.mk (below_step (by repeat (first | (with_reducible first | exact HB.out | apply below_alloc | apply pw_below_drewN | apply below_drew1 | refine below_set ?_ GE113.out | refine below_set ?_ GE114.out) | exact HB.out)) hb); clear BK113; clear BK114; clear HB; have BK113 := n0_; have BK114 := n1_; have HB := n2_; clear n0_ n1_ n2_; (try clear hb); (try clear hb2); (try clear hk); (try clear hi)))
        go_ret
        exact ⟨by first | rfl | (simp [errW_none, errW_some] <;> rfl) | (simp [*, errW_none, errW_some] <;> rfl) | (simp [bne_nil_]; done), by repeat (first | (with_reducible first | exact HB.out | apply below_alloc | apply pw_below_drewN | apply below_drew1 | refine below_set ?_ GE113.out | refine below_set ?_ GE114.out) | exact HB.out)⟩
      · rw [if_neg c8] at H
        have c8b0 : (t117 == 0) = false := beq_eq_false_iff_ne.mpr c8
        have c8b1 : (t117 != 0) = true := bne_iff_ne.mpr c8
        obtain rfl := Option.some.inj H
        go_enter Tryd.func26, Tryd.ntmps26
        go_wp2_with (first | ((with_reducible refine gate_dst (N := 2) rfl ?_); refine box_event ?hg (N := 2) ?hd (cs := #[.string a0_0, .string a0_1, .string a0_2]) (t := 42) ?hr ?_; (case hd => rfl); (case hg => rfl); (case hr => first | (go_simp; done) | (go_simp; rfl)); intro gb113 hg w21 hbox hb; have n0_ := Aside0.mk (below_step (by repeat (first | (with_reducible first | exact HB.out | apply below_alloc | apply pw_below_drewN | apply below_drew1) | exact HB.out)) hb); have n1_ := Aside0.mk (hbox); have n2_ := Aside0.mk ((by rw [hg]; exact (below_size (by repeat (first | (with_reducible first | exact HB.out | apply below_alloc | apply pw_below_drewN | apply below_drew1) | exact HB.out))) : w.heap.size ≤ gb113)); have n3_ := Aside0.mk ((by rw [hg]; exact (below_size (by repeat (first | (with_reducible first | exact HB.out | apply below_alloc | apply pw_below_drewN | apply below_drew1) | exact HB.out))) : w.heap.size ≤ gb113)); clear HB; have HB := n0_; have BK113 := n1_; have GW113 := n2_; have GE113 := n3_; clear n0_ n1_ n2_ n3_; clear hb hbox hg) | ((with_reducible refine gate_dst (N := 3) rfl ?_); refine box_event ?hg (N := 3) ?hd (cs := #[.string a1_0, .string a1_1, .string a1_2]) (t := 42) ?hr ?_; (case hd => rfl); (case hg => rfl); (case hr => first | (go_simp; done) | (go_simp; rfl)); intro gb114 hg w22 hbox hb; have n0_ := Aside0.mk (blk_below (g := gb113) (o := .cells #[.string a0_0, .string a0_1, .string a0_2] 42 (0, 0)) (by (with_reducible repeat (first | refine blk_drewN ?_ _ | refine blk_drew ?_ | refine blk_alloc ?_ _)); exact BK113.out) hb); have n1_ := Aside0.mk (below_step (by repeat (first | (with_reducible first | exact HB.out | apply below_alloc | apply pw_below_drewN | apply below_drew1 | refine below_set ?_ GE113.out) | exact HB.out)) hb); have n2_ := Aside0.mk (hbox); have n3_ := Aside0.mk ((by rw [hg]; exact (below_size (by repeat (first | (with_reducible first | exact HB.out | apply below_alloc | apply pw_below_drewN | apply below_drew1 | refine below_set ?_ GE113.out) | exact HB.out))) : w.heap.size ≤ gb114)); have n4_ := Aside0.mk ((by rw [hg]; exact (below_size (by repeat (first | (with_reducible first | exact HB.out | apply below_alloc | apply pw_below_drewN | apply below_drew1 | refine below_set ?_ GE113.out) | exact HB.out))) : w.heap.size ≤ gb114)); have n5_ := Aside0.mk ((by rw [hg]; exact Nat.ne_of_lt (blk_lt (g := gb113) (o := .cells #[.string a0_0, .string a0_1, .string a0_2] 42 (0, 0)) (by (with_reducible repeat (first | refine blk_drewN ?_ _ | refine blk_drew ?_ | refine blk_alloc ?_ _)); exact BK113.out)) : gb113 ≠ gb114)); have n6_ := Aside0.mk ((by rw [hg]; exact Nat.ne_of_gt (blk_lt (g := gb113) (o := .cells #[.string a0_0, .string a0_1, .string a0_2] 42 (0, 0)) (by (with_reducible repeat (first | refine blk_drewN ?_ _ | refine blk_drew ?_ | refine blk_alloc ?_ _)); exact BK113.out)) : gb114 ≠ gb113)); clear BK113; clear HB; have BK113 := n0_; have HB := n1_; have BK114 := n2_; have GW114 := n3_; have GE114 := n4_; have NB113_114 := n5_; have NB114_113 := n6_; clear n0_ n1_ n2_ n3_ n4_ n5_ n6_; clear hb hbox hg; have hnb23 := NB113_114.out; have hnc23 := NB114_113.out; have hcz24_0 : w22.cell? ⟨gb113, 0, none⟩ = some (.string a0_0) := (blk_cell BK113.out 0).trans rfl; have hcz24_1 : w22.cell? ⟨gb113, 1, none⟩ = some (.string a0_1) := (blk_cell BK113.out 1).trans rfl; have hcz24_2 : w22.cell? ⟨gb113, 2, none⟩ = some (.string a0_2) := (blk_cell BK113.out 2).trans rfl; have hfz24_0 := blk_frozen BK113.out 0; have hfz24_1 := blk_frozen BK113.out 1; have hfz24_2 := blk_frozen BK113.out 2; have hcz25_0 : w22.cell? ⟨gb114, 0, none⟩ = some (.string a1_0) := (blk_cell BK114.out 0).trans rfl; have hcz25_1 : w22.cell? ⟨gb114, 1, none⟩ = some (.string a1_1) := (blk_cell BK114.out 1).trans rfl; have hcz25_2 : w22.cell? ⟨gb114, 2, none⟩ = some (.string a1_2) := (blk_cell BK114.out 2).trans rfl; have hfz25_0 := blk_frozen BK114.out 0; have hfz25_1 := blk_frozen BK114.out 1; have hfz25_2 := blk_frozen BK114.out 2) | ((with_reducible refine gate_callee (f := 33) rfl ?_); refine goesL_ (some 12) rfl rfl Tryd.func33 (by kernel_rfl) rfl #[.string a0_0, .string a1_0] rfl (by (try simp only [List.map_toArray, List.map_cons, List.map_nil]); first | done | rfl | (simp only [List.length_drop, List.length_take]; rfl)) ?_; (with_reducible refine (Giv.semantic_compareRedHatComponents.calls a0_0 a1_0 t115 _ A3.out).mono ?_); rintro e w26 ⟨rfl, hb⟩; refine ⟨_, rfl, ?_⟩; have n0_ := Aside0.mk (blk_below (g := gb113) (o := .cells #[.string a0_0, .string a0_1, .string a0_2] 42 (0, 0)) (by (with_reducible repeat (first | refine blk_drewN ?_ _ | refine blk_drew ?_ | refine blk_alloc ?_ _)); exact BK113.out) hb); have n1_ := Aside0.mk (blk_below (g := gb114) (o := .cells #[.string a1_0, .string a1_1, .string a1_2] 42 (0, 0)) (by (with_reducible repeat (first | refine blk_drewN ?_ _ | refine blk_drew ?_ | refine blk_alloc ?_ _)); exact BK114.out) hb); have n2_ := Aside0.mk (below_step (by repeat (first | (with_reducible first | exact HB.out | apply below_alloc | apply pw_below_drewN | apply below_drew1 | refine below_set ?_ GE113.out | refine below_set ?_ GE114.out) | exact HB.out)) hb); clear BK113; clear BK114; clear HB; have BK113 := n0_; have BK114 := n1_; have HB := n2_; clear n0_ n1_ n2_; (try clear hb); (try clear hb2); (try clear hk); (try clear hi); have hcz27_0 : w26.cell? ⟨gb113, 0, none⟩ = some (.string a0_0) := (blk_cell BK113.out 0).trans rfl; have hcz27_1 : w26.cell? ⟨gb113, 1, none⟩ = some (.string a0_1) := (blk_cell BK113.out 1).trans rfl; have hcz27_2 : w26.cell? ⟨gb113, 2, none⟩ = some (.string a0_2) := (blk_cell BK113.out 2).trans rfl; have hfz27_0 := blk_frozen BK113.out 0; have hfz27_1 := blk_frozen BK113.out 1; have hfz27_2 := blk_frozen BK113.out 2; have hcz28_0 : w26.cell? ⟨gb114, 0, none⟩ = some (.string a1_0) := (blk_cell BK114.out 0).trans rfl; have hcz28_1 : w26.cell? ⟨gb114, 1, none⟩ = some (.string a1_1) := (blk_cell BK114.out 1).trans rfl; have hcz28_2 : w26.cell? ⟨gb114, 2, none⟩ = some (.string a1_2) := (blk_cell BK114.out 2).trans rfl; have hfz28_0 := blk_frozen BK114.out 0; have hfz28_1 := blk_frozen BK114.out 1; have hfz28_2 := blk_frozen BK114.out 2) | ((with_reducible refine gate_callee (f := 33) rfl ?_); refine goesL_ (some 20) rfl rfl Tryd.func33 (by kernel_rfl) rfl #[.string a0_1, .string a1_1] rfl (by (try simp only [List.map_toArray, List.map_cons, List.map_nil]); first | done | rfl | (simp only [List.length_drop, List.length_take]; rfl)) ?_; (with_reducible refine (Giv.semantic_compareRedHatComponents.calls a0_1 a1_1 t116 _ A5.out).mono ?_); rintro e w29 ⟨rfl, hb⟩; refine ⟨_, rfl, ?_⟩; have n0_ := Aside0.mk (blk_below (g := gb113) (o := .cells #[.string a0_0, .string a0_1, .string a0_2] 42 (0, 0)) (by (with_reducible repeat (first | refine blk_drewN ?_ _ | refine blk_drew ?_ | refine blk_alloc ?_ _)); exact BK113.out) hb); have n1_ := Aside0.mk (blk_below (g := gb114) (o := .cells #[.string a1_0, .string a1_1, .string a1_2] 42 (0, 0)) (by (with_reducible repeat (first | refine blk_drewN ?_ _ | refine blk_drew ?_ | refine blk_alloc ?_ _)); exact BK114.out) hb); have n2_ := Aside0.mk (below_step (by repeat (first | (with_reducible first | exact HB.out | apply below_alloc | apply pw_below_drewN | apply below_drew1 | refine below_set ?_ GE113.out | refine below_set ?_ GE114.out) | exact HB.out)) hb); clear BK113; clear BK114; clear HB; have BK113 := n0_; have BK114 := n1_; have HB := n2_; clear n0_ n1_ n2_; (try clear hb); (try clear hb2); (try clear hk); (try clear hi); have hcz30_0 : w29.cell? ⟨gb113, 0, none⟩ = some (.string a0_0) := (blk_cell BK113.out 0).trans rfl; have hcz30_1 : w29.cell? ⟨gb113, 1, none⟩ = some (.string a0_1) := (blk_cell BK113.out 1).trans rfl; have hcz30_2 : w29.cell? ⟨gb113, 2, none⟩ = some (.string a0_2) := (blk_cell BK113.out 2).trans rfl; have hfz30_0 := blk_frozen BK113.out 0; have hfz30_1 := blk_frozen BK113.out 1; have hfz30_2 := blk_frozen BK113.out 2; have hcz31_0 : w29.cell? ⟨gb114, 0, none⟩ = some (.string a1_0) := (blk_cell BK114.out 0).trans rfl; have hcz31_1 : w29.cell? ⟨gb114, 1, none⟩ = some (.string a1_1) := (blk_cell BK114.out 1).trans rfl; have hcz31_2 : w29.cell? ⟨gb114, 2, none⟩ = some (.string a1_2) := (blk_cell BK114.out 2).trans rfl; have hfz31_0 := blk_frozen BK114.out 0; have hfz31_1 := blk_frozen BK114.out 1; have hfz31_2 := blk_frozen BK114.out 2) | ((with_reducible refine gate_callee (f := 33) rfl ?_); refine goesL_ (some 28) rfl rfl Tryd.func33 (by kernel_rfl) rfl #[.string a0_2, .string a1_2] rfl (by (try simp only [List.map_toArray, List.map_cons, List.map_nil]); first | done | rfl | (simp only [List.length_drop, List.length_take]; rfl)) ?_; (with_reducible refine (Giv.semantic_compareRedHatComponents.calls a0_2 a1_2 t117 _ A7.out).mono ?_); rintro e w32 ⟨rfl, hb⟩; refine ⟨_, rfl, ?_⟩; have n0_ := Aside0.mk (blk_below (g := gb113) (o := .cells #[.string a0_0, .string a0_1, .string a0_2] 42 (0, 0)) (by (with_reducible repeat (first | refine blk_drewN ?_ _ | refine blk_drew ?_ | refine blk_alloc ?_ _)); exact BK113.out) hb); have n1_ := Aside0.mk (blk_below (g := gb114) (o := .cells #[.string a1_0, .string a1_1, .string a1_2] 42 (0, 0)) (by (with_reducible repeat (first | refine blk_drewN ?_ _ | refine blk_drew ?_ | refine blk_alloc ?_ _)); exact BK114.out) hb); have n2_ := Aside0.mk (below_step (by repeat (first | (with_reducible first | exact HB.out | apply below_alloc | apply pw_below_drewN | apply below_drew1 | refine below_set ?_ GE113.out | refine below_set ?_ GE114.out) | exact HB.out)) hb); clear BK113; clear BK114; clear HB; have BK113 := n0_; have BK114 := n1_; have HB := n2_; clear n0_ n1_ n2_; (try clear hb); (try clear hb2); (try clear hk); (try clear hi)))
        go_ret
        exact ⟨by first | rfl | (simp [errW_none, errW_some] <;> rfl) | (simp [*, errW_none, errW_some] <;> rfl) | (simp [bne_nil_]; done), by repeat (first | (with_reducible first | exact HB.out | apply below_alloc | apply pw_below_drewN | apply below_drew1 | refine below_set ?_ GE113.out | refine below_set ?_ GE114.out) | exact HB.out)⟩
    · rw [if_neg c6] at H
      have c6b0 : (t116 == 0) = false := beq_eq_false_iff_ne.mpr c6
      have c6b1 : (t116 != 0) = true := bne_iff_ne.mpr c6
      obtain rfl := Option.some.inj H
      go_enter Tryd.func26, Tryd.ntmps26
      go_wp2_with (first | ((with_reducible refine gate_dst (N := 2) rfl ?_); refine box_event ?hg (N := 2) ?hd (cs := #[.string a0_0, .string a0_1, .string a0_2]) (t := 42) ?hr ?_; (case hd => rfl); (case hg => rfl); (case hr => first | (go_simp; done) | (go_simp; rfl)); intro gb113 hg w33 hbox hb; have n0_ := Aside0.mk (below_step (by repeat (first | (with_reducible first | exact HB.out | apply below_alloc | apply pw_below_drewN | apply below_drew1) | exact HB.out)) hb); have n1_ := Aside0.mk (hbox); have n2_ := Aside0.mk ((by rw [hg]; exact (below_size (by repeat (first | (with_reducible first | exact HB.out | apply below_alloc | apply pw_below_drewN | apply below_drew1) | exact HB.out))) : w.heap.size ≤ gb113)); have n3_ := Aside0.mk ((by rw [hg]; exact (below_size (by repeat (first | (with_reducible first | exact HB.out | apply below_alloc | apply pw_below_drewN | apply below_drew1) | exact HB.out))) : w.heap.size ≤ gb113)); clear HB; have HB := n0_; have BK113 := n1_; have GW113 := n2_; have GE113 := n3_; clear n0_ n1_ n2_ n3_; clear hb hbox hg) | ((with_reducible refine gate_dst (N := 3) rfl ?_); refine box_event ?hg (N := 3) ?hd (cs := #[.string a1_0, .string a1_1, .string a1_2]) (t := 42) ?hr ?_; (case hd => rfl); (case hg => rfl); (case hr => first | (go_simp; done) | (go_simp; rfl)); intro gb114 hg w34 hbox hb; have n0_ := Aside0.mk (blk_below (g := gb113) (o := .cells #[.string a0_0, .string a0_1, .string a0_2] 42 (0, 0)) (by (with_reducible repeat (first | refine blk_drewN ?_ _ | refine blk_drew ?_ | refine blk_alloc ?_ _)); exact BK113.out) hb); have n1_ := Aside0.mk (below_step (by repeat (first | (with_reducible first | exact HB.out | apply below_alloc | apply pw_below_drewN | apply below_drew1 | refine below_set ?_ GE113.out) | exact HB.out)) hb); have n2_ := Aside0.mk (hbox); have n3_ := Aside0.mk ((by rw [hg]; exact (below_size (by repeat (first | (with_reducible first | exact HB.out | apply below_alloc | apply pw_below_drewN | apply below_drew1 | refine below_set ?_ GE113.out) | exact HB.out))) : w.heap.size ≤ gb114)); have n4_ := Aside0.mk ((by rw [hg]; exact (below_size (by repeat (first | (with_reducible first | exact HB.out | apply below_alloc | apply pw_below_drewN | apply below_drew1 | refine below_set ?_ GE113.out) | exact HB.out))) : w.heap.size ≤ gb114)); have n5_ := Aside0.mk ((by rw [hg]; exact Nat.ne_of_lt (blk_lt (g := gb113) (o := .cells #[.string a0_0, .string a0_1, .string a0_2] 42 (0, 0)) (by (with_reducible repeat (first | refine blk_drewN ?_ _ | refine blk_drew ?_ | refine blk_alloc ?_ _)); exact BK113.out)) : gb113 ≠ gb114)); have n6_ := Aside0.mk ((by rw [hg]; exact Nat.ne_of_gt (blk_lt (g := gb113) (o := .cells #[.string a0_0, .string a0_1, .string a0_2] 42 (0, 0)) (by (with_reducible repeat (first | refine blk_drewN ?_ _ | refine blk_drew ?_ | refine blk_alloc ?_ _)); exact BK113.out)) : gb114 ≠ gb113)); clear BK113; clear HB; have BK113 := n0_; have HB := n1_; have BK114 := n2_; have GW114 := n3_; have GE114 := n4_; have NB113_114 := n5_; have NB114_113 := n6_; clear n0_ n1_ n2_ n3_ n4_ n5_ n6_; clear hb hbox hg; have hnb35 := NB113_114.out; have hnc35 := NB114_113.out; have hcz36_0 : w34.cell? ⟨gb113, 0, none⟩ = some (.string a0_0) := (blk_cell BK113.out 0).trans rfl; have hcz36_1 : w34.cell? ⟨gb113, 1, none⟩ = some (.string a0_1) := (blk_cell BK113.out 1).trans rfl; have hcz36_2 : w34.cell? ⟨gb113, 2, none⟩ = some (.string a0_2) := (blk_cell BK113.out 2).trans rfl; have hfz36_0 := blk_frozen BK113.out 0; have hfz36_1 := blk_frozen BK113.out 1; have hfz36_2 := blk_frozen BK113.out 2; have hcz37_0 : w34.cell? ⟨gb114, 0, none⟩ = some (.string a1_0) := (blk_cell BK114.out 0).trans rfl; have hcz37_1 : w34.cell? ⟨gb114, 1, none⟩ = some (.string a1_1) := (blk_cell BK114.out 1).trans rfl; have hcz37_2 : w34.cell? ⟨gb114, 2, none⟩ = some (.string a1_2) := (blk_cell BK114.out 2).trans rfl; have hfz37_0 := blk_frozen BK114.out 0; have hfz37_1 := blk_frozen BK114.out 1; have hfz37_2 := blk_frozen BK114.out 2) | ((with_reducible refine gate_callee (f := 33) rfl ?_); refine goesL_ (some 12) rfl rfl Tryd.func33 (by kernel_rfl) rfl #[.string a0_0, .string a1_0] rfl (by (try simp only [List.map_toArray, List.map_cons, List.map_nil]); first | done | rfl | (simp only [List.length_drop, List.length_take]; rfl)) ?_; (with_reducible refine (Giv.semantic_compareRedHatComponents.calls a0_0 a1_0 t115 _ A3.out).mono ?_); rintro e w38 ⟨rfl, hb⟩; refine ⟨_, rfl, ?_⟩; have n0_ := Aside0.mk (blk_below (g := gb113) (o := .cells #[.string a0_0, .string a0_1, .string a0_2] 42 (0, 0)) (by (with_reducible repeat (first | refine blk_drewN ?_ _ | refine blk_drew ?_ | refine blk_alloc ?_ _)); exact BK113.out) hb); have n1_ := Aside0.mk (blk_below (g := gb114) (o := .cells #[.string a1_0, .string a1_1, .string a1_2] 42 (0, 0)) (by (with_reducible repeat (first | refine blk_drewN ?_ _ | refine blk_drew ?_ | refine blk_alloc ?_ _)); exact BK114.out) hb); have n2_ := Aside0.mk (below_step (by repeat (first | (with_reducible first | exact HB.out | apply below_alloc | apply pw_below_drewN | apply below_drew1 | refine below_set ?_ GE113.out | refine below_set ?_ GE114.out) | exact HB.out)) hb); clear BK113; clear BK114; clear HB; have BK113 := n0_; have BK114 := n1_; have HB := n2_; clear n0_ n1_ n2_; (try clear hb); (try clear hb2); (try clear hk); (try clear hi); have hcz39_0 : w38.cell? ⟨gb113, 0, none⟩ = some (.string a0_0) := (blk_cell BK113.out 0).trans rfl; have hcz39_1 : w38.cell? ⟨gb113, 1, none⟩ = some (.string a0_1) := (blk_cell BK113.out 1).trans rfl; have hcz39_2 : w38.cell? ⟨gb113, 2, none⟩ = some (.string a0_2) := (blk_cell BK113.out 2).trans rfl; have hfz39_0 := blk_frozen BK113.out 0; have hfz39_1 := blk_frozen BK113.out 1; have hfz39_2 := blk_frozen BK113.out 2; have hcz40_0 : w38.cell? ⟨gb114, 0, none⟩ = some (.string a1_0) := (blk_cell BK114.out 0).trans rfl; have hcz40_1 : w38.cell? ⟨gb114, 1, none⟩ = some (.string a1_1) := (blk_cell BK114.out 1).trans rfl; have hcz40_2 : w38.cell? ⟨gb114, 2, none⟩ = some (.string a1_2) := (blk_cell BK114.out 2).trans rfl; have hfz40_0 := blk_frozen BK114.out 0; have hfz40_1 := blk_frozen BK114.out 1; have hfz40_2 := blk_frozen BK114.out 2) | ((with_reducible refine gate_callee (f := 33) rfl ?_); refine goesL_ (some 20) rfl rfl Tryd.func33 (by kernel_rfl) rfl #[.string a0_1, .string a1_1] rfl (by (try simp only [List.map_toArray, List.map_cons, List.map_nil]); first | done | rfl | (simp only [List.length_drop, List.length_take]; rfl)) ?_; (with_reducible refine (Giv.semantic_compareRedHatComponents.calls a0_1 a1_1 t116 _ A5.out).mono ?_); rintro e w41 ⟨rfl, hb⟩; refine ⟨_, rfl, ?_⟩; have n0_ := Aside0.mk (blk_below (g := gb113) (o := .cells #[.string a0_0, .string a0_1, .string a0_2] 42 (0, 0)) (by (with_reducible repeat (first | refine blk_drewN ?_ _ | refine blk_drew ?_ | refine blk_alloc ?_ _)); exact BK113.out) hb); have n1_ := Aside0.mk (blk_below (g := gb114) (o := .cells #[.string a1_0, .string a1_1, .string a1_2] 42 (0, 0)) (by (with_reducible repeat (first | refine blk_drewN ?_ _ | refine blk_drew ?_ | refine blk_alloc ?_ _)); exact BK114.out) hb); have n2_ := Aside0.mk (below_step (by repeat (first | (with_reducible first | exact HB.out | apply below_alloc | apply pw_below_drewN | apply below_drew1 | refine below_set ?_ GE113.out | refine below_set ?_ GE114.out) | exact HB.out)) hb); clear BK113; clear BK114; clear HB; have BK113 := n0_; have BK114 := n1_; have HB := n2_; clear n0_ n1_ n2_; (try clear hb); (try clear hb2); (try clear hk); (try clear hi)))
      go_ret
      exact ⟨by first | rfl | (simp [errW_none, errW_some] <;> rfl) | (simp [*, errW_none, errW_some] <;> rfl) | (simp [bne_nil_]; done), by repeat (first | (with_reducible first | exact HB.out | apply below_alloc | apply pw_below_drewN | apply below_drew1 | refine below_set ?_ GE113.out | refine below_set ?_ GE114.out) | exact HB.out)⟩
  · rw [if_neg c4] at H
    have c4b0 : (t115 == 0) = false := beq_eq_false_iff_ne.mpr c4
    have c4b1 : (t115 != 0) = true := bne_iff_ne.mpr c4
    obtain rfl := Option.some.inj H
    go_enter Tryd.func26, Tryd.ntmps26
    go_wp2_with (first | ((with_reducible refine gate_dst (N := 2) rfl ?_); refine box_event ?hg (N := 2) ?hd (cs := #[.string a0_0, .string a0_1, .string a0_2]) (t := 42) ?hr ?_; (case hd => rfl); (case hg => rfl); (case hr => first | (go_simp; done) | (go_simp; rfl)); intro gb113 hg w42 hbox hb; have n0_ := Aside0.mk (below_step (by repeat (first | (with_reducible first | exact HB.out | apply below_alloc | apply pw_below_drewN | apply below_drew1) | exact HB.out)) hb); have n1_ := Aside0.mk (hbox); have n2_ := Aside0.mk ((by rw [hg]; exact (below_size (by repeat (first | (with_reducible first | exact HB.out | apply below_alloc | apply pw_below_drewN | apply below_drew1) | exact HB.out))) : w.heap.size ≤ gb113)); have n3_ := Aside0.mk ((by rw [hg]; exact (below_size (by repeat (first | (with_reducible first | exact HB.out | apply below_alloc | apply pw_below_drewN | apply below_drew1) | exact HB.out))) : w.heap.size ≤ gb113)); clear HB; have HB := n0_; have BK113 := n1_; have GW113 := n2_; have GE113 := n3_; clear n0_ n1_ n2_ n3_; clear hb hbox hg) | ((with_reducible refine gate_dst (N := 3) rfl ?_); refine box_event ?hg (N := 3) ?hd (cs := #[.string a1_0, .string a1_1, .string a1_2]) (t := 42) ?hr ?_; (case hd => rfl); (case hg => rfl); (case hr => first | (go_simp; done) | (go_simp; rfl)); intro gb114 hg w43 hbox hb; have n0_ := Aside0.mk (blk_below (g := gb113) (o := .cells #[.string a0_0, .string a0_1, .string a0_2] 42 (0, 0)) (by (with_reducible repeat (first | refine blk_drewN ?_ _ | refine blk_drew ?_ | refine blk_alloc ?_ _)); exact BK113.out) hb); have n1_ := Aside0.mk (below_step (by repeat (first | (with_reducible first | exact HB.out | apply below_alloc | apply pw_below_drewN | apply below_drew1 | refine below_set ?_ GE113.out) | exact HB.out)) hb); have n2_ := Aside0.mk (hbox); have n3_ := Aside0.mk ((by rw [hg]; exact (below_size (by repeat (first | (with_reducible first | exact HB.out | apply below_alloc | apply pw_below_drewN | apply below_drew1 | refine below_set ?_ GE113.out) | exact HB.out))) : w.heap.size ≤ gb114)); have n4_ := Aside0.mk ((by rw [hg]; exact (below_size (by repeat (first | (with_reducible first | exact HB.out | apply below_alloc | apply pw_below_drewN | apply below_drew1 | refine below_set ?_ GE113.out) | exact HB.out))) : w.heap.size ≤ gb114)); have n5_ := Aside0.mk ((by rw [hg]; exact Nat.ne_of_lt (blk_lt (g := gb113) (o := .cells #[.string a0_0, .string a0_1, .string a0_2] 42 (0, 0)) (by (with_reducible repeat (first | refine blk_drewN ?_ _ | refine blk_drew ?_ | refine blk_alloc ?_ _)); exact BK113.out)) : gb113 ≠ gb114)); have n6_ := Aside0.mk ((by rw [hg]; exact Nat.ne_of_gt (blk_lt (g := gb113) (o := .cells #[.string a0_0, .string a0_1, .string a0_2] 42 (0, 0)) (by (with_reducible repeat (first | refine blk_drewN ?_ _ | refine blk_drew ?_ | refine blk_alloc ?_ _)); exact BK113.out)) : gb114 ≠ gb113)); clear BK113; clear HB; have BK113 := n0_; have HB := n1_; have BK114 := n2_; have GW114 := n3_; have GE114 := n4_; have NB113_114 := n5_; have NB114_113 := n6_; clear n0_ n1_ n2_ n3_ n4_ n5_ n6_; clear hb hbox hg; have hnb44 := NB113_114.out; have hnc44 := NB114_113.out; have hcz45_0 : w43.cell? ⟨gb113, 0, none⟩ = some (.string a0_0) := (blk_cell BK113.out 0).trans rfl; have hcz45_1 : w43.cell? ⟨gb113, 1, none⟩ = some (.string a0_1) := (blk_cell BK113.out 1).trans rfl; have hcz45_2 : w43.cell? ⟨gb113, 2, none⟩ = some (.string a0_2) := (blk_cell BK113.out 2).trans rfl; have hfz45_0 := blk_frozen BK113.out 0; have hfz45_1 := blk_frozen BK113.out 1; have hfz45_2 := blk_frozen BK113.out 2; have hcz46_0 : w43.cell? ⟨gb114, 0, none⟩ = some (.string a1_0) := (blk_cell BK114.out 0).trans rfl; have hcz46_1 : w43.cell? ⟨gb114, 1, none⟩ = some (.string a1_1) := (blk_cell BK114.out 1).trans rfl; have hcz46_2 : w43.cell? ⟨gb114, 2, none⟩ = some (.string a1_2) := (blk_cell BK114.out 2).trans rfl; have hfz46_0 := blk_frozen BK114.out 0; have hfz46_1 := blk_frozen BK114.out 1; have hfz46_2 := blk_frozen BK114.out 2) | ((with_reducible refine gate_callee (f := 33) rfl ?_); refine goesL_ (some 12) rfl rfl Tryd.func33 (by kernel_rfl) rfl #[.string a0_0, .string a1_0] rfl (by (try simp only [List.map_toArray, List.map_cons, List.map_nil]); first | done | rfl | (simp only [List.length_drop, List.length_take]; rfl)) ?_; (with_reducible refine (Giv.semantic_compareRedHatComponents.calls a0_0 a1_0 t115 _ A3.out).mono ?_); rintro e w47 ⟨rfl, hb⟩; refine ⟨_, rfl, ?_⟩; have n0_ := Aside0.mk (blk_below (g := gb113) (o := .cells #[.string a0_0, .string a0_1, .string a0_2] 42 (0, 0)) (by (with_reducible repeat (first | refine blk_drewN ?_ _ | refine blk_drew ?_ | refine blk_alloc ?_ _)); exact BK113.out) hb); have n1_ := Aside0.mk (blk_below (g := gb114) (o := .cells #[.string a1_0, .string a1_1, .string a1_2] 42 (0, 0)) (by (with_reducible repeat (first | refine blk_drewN ?_ _ | refine blk_drew ?_ | refine blk_alloc ?_ _)); exact BK114.out) hb); have n2_ := Aside0.mk (below_step (by repeat (first | (with_reducible first | exact HB.out | apply below_alloc | apply pw_below_drewN | apply below_drew1 | refine below_set ?_ GE113.out | refine below_set ?_ GE114.out) | exact HB.out)) hb); clear BK113; clear BK114; clear HB; have BK113 := n0_; have BK114 := n1_; have HB := n2_; clear n0_ n1_ n2_; (try clear hb); (try clear hb2); (try clear hk); (try clear hi)))
    go_ret
    exact ⟨by first | rfl | (simp [errW_none, errW_some] <;> rfl) | (simp [*, errW_none, errW_some] <;> rfl) | (simp [bne_nil_]; done), by repeat (first | (with_reducible first | exact HB.out | apply below_alloc | apply pw_below_drewN | apply below_drew1 | refine below_set ?_ GE113.out | refine below_set ?_ GE114.out) | exact HB.out)⟩

-- NOT PRINTED: function 19 (semantic_RedHatVersion_Compare)

-- GIVEN: function 10 (impl_RedHatCompare)

/-! ### semantic_ZZRedHatParts: function 22 -/
def semantic_ZZRedHatParts.f (a0 : ByteArray) (a1 : ByteArray) : Option (Int) := (Giv.semantic_compareRedHatComponents.f a0 a1).bind fun t118 => (some t118)
set_option maxHeartbeats 8000000 in
set_option maxRecDepth 100000 in
theorem semantic_ZZRedHatParts.calls (a0 : ByteArray) (a1 : ByteArray) (r : Int) (w : World) (h : semantic_ZZRedHatParts.f a0 a1 = some r) :
    Calls Tryd.prog 22 #[.string a0, .string a1] w fun e w' => e = .returned (.int .i64 r) ∧ Below w.heap.size w w' := by
  have HB := Aside0.mk (Below.refl w.heap.size w)
  have H : ((Giv.semantic_compareRedHatComponents.f a0 a1).bind fun t118 => (some t118)) = some r := h
  clear h
  replace H := Option.bind_eq_some_iff.mp H
  obtain ⟨t118, A30, H⟩ := H
  replace H : (some t118) = some r := H
  have A3 := Aside0.mk A30
  clear A30
  obtain rfl := Option.some.inj H
  go_enter Tryd.func22, Tryd.ntmps22
  go_wp2_with (first | ((with_reducible refine gate_callee (f := 33) rfl ?_); refine goesL_ (some 7) rfl rfl Tryd.func33 (by kernel_rfl) rfl #[.string a0, .string a1] rfl (by (try simp only [List.map_toArray, List.map_cons, List.map_nil]); first | done | rfl | (simp only [List.length_drop, List.length_take]; rfl)) ?_; (with_reducible refine (Giv.semantic_compareRedHatComponents.calls a0 a1 t118 _ A3.out).mono ?_); rintro e w4 ⟨rfl, hb⟩; refine ⟨_, rfl, ?_⟩; have n0_ := Aside0.mk (below_step (by repeat (first | (with_reducible first | exact HB.out | apply below_alloc | apply pw_below_drewN | apply below_drew1) | exact HB.out)) hb); clear HB; have HB := n0_; clear n0_; (try clear hb); (try clear hb2); (try clear hk); (try clear hi)))
  go_ret
  exact ⟨by first | rfl | (simp [errW_none, errW_some] <;> rfl) | (simp [*, errW_none, errW_some] <;> rfl) | (simp [bne_nil_]; done), by repeat (first | (with_reducible first | exact HB.out | apply below_alloc | apply pw_below_drewN | apply below_drew1) | exact HB.out)⟩

/-! ### impl_RedHatParts: function 13 -/
def impl_RedHatParts.f (a0 : ByteArray) (a1 : ByteArray) : Option (Int) := (semantic_ZZRedHatParts.f a0 a1).bind fun t119 => (some t119)
set_option maxHeartbeats 8000000 in
set_option maxRecDepth 100000 in
theorem impl_RedHatParts.calls (a0 : ByteArray) (a1 : ByteArray) (r : Int) (w : World) (h : impl_RedHatParts.f a0 a1 = some r) :
    Calls Tryd.prog 13 #[.string a0, .string a1] w fun e w' => e = .returned (.int .i64 r) ∧ Below w.heap.size w w' := by
  have HB := Aside0.mk (Below.refl w.heap.size w)
  have H : ((semantic_ZZRedHatParts.f a0 a1).bind fun t119 => (some t119)) = some r := h
  clear h
  replace H := Option.bind_eq_some_iff.mp H
  obtain ⟨t119, A30, H⟩ := H
  replace H : (some t119) = some r := H
  have A3 := Aside0.mk A30
  clear A30
  obtain rfl := Option.some.inj H
  go_enter Tryd.func13, Tryd.ntmps13
  go_wp2_with (first | ((with_reducible refine gate_callee (f := 22) rfl ?_); refine goesL_ (some 7) rfl rfl Tryd.func22 (by kernel_rfl) rfl #[.string a0, .string a1] rfl (by (try simp only [List.map_toArray, List.map_cons, List.map_nil]); first | done | rfl | (simp only [List.length_drop, List.length_take]; rfl)) ?_; (with_reducible refine (semantic_ZZRedHatParts.calls a0 a1 t119 _ A3.out).mono ?_); rintro e w4 ⟨rfl, hb⟩; refine ⟨_, rfl, ?_⟩; have n0_ := Aside0.mk (below_step (by repeat (first | (with_reducible first | exact HB.out | apply below_alloc | apply pw_below_drewN | apply below_drew1) | exact HB.out)) hb); clear HB; have HB := n0_; clear n0_; (try clear hb); (try clear hb2); (try clear hk); (try clear hi)))
  go_ret
  exact ⟨by first | rfl | (simp [errW_none, errW_some] <;> rfl) | (simp [*, errW_none, errW_some] <;> rfl) | (simp [bne_nil_]; done), by repeat (first | (with_reducible first | exact HB.out | apply below_alloc | apply pw_below_drewN | apply below_drew1) | exact HB.out)⟩

/-! ### laws_redhatAwake: function 12 -/
def laws_redhatAwake.f  : Option (Bool) := (Giv.impl_RedHatCompare.f (⟨#[49]⟩ : ByteArray) (⟨#[50]⟩ : ByteArray)).bind fun bt120 => (if bt120.2 = true then (if bt120.1 = (-1) then ((impl_RedHatParts.f (⟨#[49]⟩ : ByteArray) (⟨#[50]⟩ : ByteArray)).bind fun t122 => (some (t122 == (-1)))) else (some false)) else (some false))
set_option maxHeartbeats 8000000 in
set_option maxRecDepth 100000 in
theorem laws_redhatAwake.calls  (r : Bool) (w : World) (h : laws_redhatAwake.f  = some r) :
    Calls Tryd.prog 12 #[] w fun e w' => e = .returned (.bool r) ∧ Below w.heap.size w w' := by
  have HB := Aside0.mk (Below.refl w.heap.size w)
  have H : ((Giv.impl_RedHatCompare.f (⟨#[49]⟩ : ByteArray) (⟨#[50]⟩ : ByteArray)).bind fun bt120 => (if bt120.2 = true then (if bt120.1 = (-1) then ((impl_RedHatParts.f (⟨#[49]⟩ : ByteArray) (⟨#[50]⟩ : ByteArray)).bind fun t122 => (some (t122 == (-1)))) else (some false)) else (some false))) = some r := h
  clear h
  replace H := Option.bind_eq_some_iff.mp H
  obtain ⟨⟨t120, t121⟩, A10, H⟩ := H
  replace H : (if t121 = true then (if t120 = (-1) then ((impl_RedHatParts.f (⟨#[49]⟩ : ByteArray) (⟨#[50]⟩ : ByteArray)).bind fun t122 => (some (t122 == (-1)))) else (some false)) else (some false)) = some r := H
  have A1 := Aside0.mk A10
  clear A10
  by_cases c2 : t121 = true
  · subst c2
    have H1 : (if t120 = (-1) then ((impl_RedHatParts.f (⟨#[49]⟩ : ByteArray) (⟨#[50]⟩ : ByteArray)).bind fun t122 => (some (t122 == (-1)))) else (some false)) = some r := by rw [if_pos rfl] at H; exact H
    clear H
    have H := H1
    clear H1
    by_cases c3 : t120 = (-1)
    · rw [if_pos c3] at H
      have c3b0 : (t120 == (-1)) = true := beq_iff_eq.mpr c3
      have c3b1 : (t120 != (-1)) = false := bne_eq_false_iff_eq.mpr c3
      clear c3
      replace H := Option.bind_eq_some_iff.mp H
      obtain ⟨t122, A40, H⟩ := H
      replace H : (some (t122 == (-1))) = some r := H
      have A4 := Aside0.mk A40
      clear A40
      obtain rfl := Option.some.inj H
      go_enter Tryd.func12, Tryd.ntmps12
      go_wp2_with (first | ((with_reducible refine gate_callee (f := 10) rfl ?_); refine goesL_ (some 4) rfl rfl Tryd.func10 (by kernel_rfl) rfl #[.string (⟨#[49]⟩ : ByteArray), .string (⟨#[50]⟩ : ByteArray)] rfl (by (try simp only [List.map_toArray, List.map_cons, List.map_nil]); first | done | rfl | (simp only [List.length_drop, List.length_take]; rfl)) ?_; (with_reducible refine (Giv.impl_RedHatCompare.calls (⟨#[49]⟩ : ByteArray) (⟨#[50]⟩ : ByteArray) t120 true _ A1.out).mono ?_); rintro e w5 ⟨rfl, hb⟩; refine ⟨_, rfl, ?_⟩; have n0_ := Aside0.mk (below_step (by repeat (first | (with_reducible first | exact HB.out | apply below_alloc | apply pw_below_drewN | apply below_drew1) | exact HB.out)) hb); clear HB; have HB := n0_; clear n0_; (try clear hb); (try clear hb2); (try clear hk); (try clear hi)) | (go_at_call 13; (with_reducible refine (impl_RedHatParts.calls (⟨#[49]⟩ : ByteArray) (⟨#[50]⟩ : ByteArray) t122 _ A4.out).mono ?_); rintro e w6 ⟨rfl, hb⟩; have n0_ := Aside0.mk (below_step (by repeat (first | (with_reducible first | exact HB.out | apply below_alloc | apply pw_below_drewN | apply below_drew1) | exact HB.out)) hb); clear HB; have HB := n0_; clear n0_; (try clear hb); (try clear hb2); (try clear hk); (try clear hi)))
      go_ret
      exact ⟨by first | rfl | (simp [errW_none, errW_some] <;> rfl) | (simp [*, errW_none, errW_some] <;> rfl) | (simp [bne_nil_]; done), by repeat (first | (with_reducible first | exact HB.out | apply below_alloc | apply pw_below_drewN | apply below_drew1) | exact HB.out)⟩
    · rw [if_neg c3] at H
      have c3b0 : (t120 == (-1)) = false := beq_eq_false_iff_ne.mpr c3
      have c3b1 : (t120 != (-1)) = true := bne_iff_ne.mpr c3
      obtain rfl := Option.some.inj H
      go_enter Tryd.func12, Tryd.ntmps12
      go_wp2_with (first | ((with_reducible refine gate_callee (f := 10) rfl ?_); refine goesL_ (some 4) rfl rfl Tryd.func10 (by kernel_rfl) rfl #[.string (⟨#[49]⟩ : ByteArray), .string (⟨#[50]⟩ : ByteArray)] rfl (by (try simp only [List.map_toArray, List.map_cons, List.map_nil]); first | done | rfl | (simp only [List.length_drop, List.length_take]; rfl)) ?_; (with_reducible refine (Giv.impl_RedHatCompare.calls (⟨#[49]⟩ : ByteArray) (⟨#[50]⟩ : ByteArray) t120 true _ A1.out).mono ?_); rintro e w7 ⟨rfl, hb⟩; refine ⟨_, rfl, ?_⟩; have n0_ := Aside0.mk (below_step (by repeat (first | (with_reducible first | exact HB.out | apply below_alloc | apply pw_below_drewN | apply below_drew1) | exact HB.out)) hb); clear HB; have HB := n0_; clear n0_; (try clear hb); (try clear hb2); (try clear hk); (try clear hi)))
      go_ret
      exact ⟨by first | rfl | (simp [errW_none, errW_some] <;> rfl) | (simp [*, errW_none, errW_some] <;> rfl) | (simp [bne_nil_]; done), by repeat (first | (with_reducible first | exact HB.out | apply below_alloc | apply pw_below_drewN | apply below_drew1) | exact HB.out)⟩
  · replace c2 := Bool.eq_false_iff.mpr c2
    subst c2
    have H1 : (some false) = some r := by rw [if_neg (show ¬ (false = true) by decide)] at H; exact H
    clear H
    have H := H1
    clear H1
    obtain rfl := Option.some.inj H
    go_enter Tryd.func12, Tryd.ntmps12
    go_wp2_with (first | ((with_reducible refine gate_callee (f := 10) rfl ?_); refine goesL_ (some 4) rfl rfl Tryd.func10 (by kernel_rfl) rfl #[.string (⟨#[49]⟩ : ByteArray), .string (⟨#[50]⟩ : ByteArray)] rfl (by (try simp only [List.map_toArray, List.map_cons, List.map_nil]); first | done | rfl | (simp only [List.length_drop, List.length_take]; rfl)) ?_; (with_reducible refine (Giv.impl_RedHatCompare.calls (⟨#[49]⟩ : ByteArray) (⟨#[50]⟩ : ByteArray) t120 false _ A1.out).mono ?_); rintro e w8 ⟨rfl, hb⟩; refine ⟨_, rfl, ?_⟩; have n0_ := Aside0.mk (below_step (by repeat (first | (with_reducible first | exact HB.out | apply below_alloc | apply pw_below_drewN | apply below_drew1) | exact HB.out)) hb); clear HB; have HB := n0_; clear n0_; (try clear hb); (try clear hb2); (try clear hk); (try clear hi)))
    go_ret
    exact ⟨by first | rfl | (simp [errW_none, errW_some] <;> rfl) | (simp [*, errW_none, errW_some] <;> rfl) | (simp [bne_nil_]; done), by repeat (first | (with_reducible first | exact HB.out | apply below_alloc | apply pw_below_drewN | apply below_drew1) | exact HB.out)⟩

/-! ### laws_chained: function 14 -/
def laws_chained.j0 : Nat → Int → Int → Int → Bool → Option (Bool)
  | 0, _, _, _, _ => none
  | k + 1, x0, x1, x2, x27 => if x27 = true then (some false) else (if x0 ≥ 0 then (if x1 ≥ 0 then (if x2 < 0 then (some false) else (if x0 = 0 then (if ((x2 == 0) != (x1 == 0)) = true then (some false) else (some true)) else (if ((x2 == 0) != false) = true then (some false) else (some true)))) else (some true)) else (some true))
def laws_chained.f (k : Nat) (a0 : Int) (a1 : Int) (a2 : Int) : Option (Bool) := if a0 ≤ 0 then (if a1 ≤ 0 then (if a2 > 0 then (laws_chained.j0 k a0 a1 a2 true) else (if a0 = 0 then (laws_chained.j0 k a0 a1 a2 ((a2 == 0) != (a1 == 0))) else (laws_chained.j0 k a0 a1 a2 ((a2 == 0) != false)))) else (laws_chained.j0 k a0 a1 a2 false)) else (laws_chained.j0 k a0 a1 a2 false)
theorem laws_chained.mono_l : ∀ k, (∀ y0 y1 y2 y3, LeO (laws_chained.j0 k y0 y1 y2 y3) (laws_chained.j0 (k + 1) y0 y1 y2 y3))
  | 0 => fun _ _ _ _ r h => by simp [laws_chained.j0] at h
  | k + 1 => by
    have ih0 := laws_chained.mono_l k
    · intro y0 y1 y2 y3
      unfold laws_chained.j0
      repeat' first
      | (with_reducible exact ih0 _ _ _ _)
      | (with_reducible exact LeO.refl _)
      | (with_reducible exact LeO.none _)
      | (with_reducible refine LeO.ite ?_ ?_)
      | (with_reducible refine LeO.bind ?_ (fun _ => ?_))
      | exact ih0 _ _ _ _
      | exact LeO.none _
      | refine LeO.ite ?_ ?_
      | refine LeO.bind ?_ (fun _ => ?_)
theorem laws_chained.mono : ∀ a0 a1 a2 k, LeO (laws_chained.f k a0 a1 a2) (laws_chained.f (k + 1) a0 a1 a2) := by
  intro a0 a1 a2 k
  have ih0 := laws_chained.mono_l k
  unfold laws_chained.f
  repeat' first
      | (with_reducible exact ih0 _ _ _ _)
      | (with_reducible exact LeO.refl _)
      | (with_reducible exact LeO.none _)
      | (with_reducible refine LeO.ite ?_ ?_)
      | (with_reducible refine LeO.bind ?_ (fun _ => ?_))
      | exact ih0 _ _ _ _
      | exact LeO.none _
      | refine LeO.ite ?_ ?_
      | refine LeO.bind ?_ (fun _ => ?_)
set_option maxHeartbeats 8000000 in
set_option maxRecDepth 100000 in
theorem laws_chained.calls (k : Nat) (a0 : Int) (a1 : Int) (a2 : Int) (r : Bool) (w : World) (h : laws_chained.f k a0 a1 a2 = some r) :
    Calls Tryd.prog 14 #[.int .i64 a0, .int .i64 a1, .int .i64 a2] w fun e w' => e = .returned (.bool r) ∧ Drawn0 w w' := by
  have H : (if a0 ≤ 0 then (if a1 ≤ 0 then (if a2 > 0 then (laws_chained.j0 k a0 a1 a2 true) else (if a0 = 0 then (laws_chained.j0 k a0 a1 a2 ((a2 == 0) != (a1 == 0))) else (laws_chained.j0 k a0 a1 a2 ((a2 == 0) != false)))) else (laws_chained.j0 k a0 a1 a2 false)) else (laws_chained.j0 k a0 a1 a2 false)) = some r := h
  clear h
  have HC4 := Aside0.mk H
  clear H
  go_enter Tryd.func14, Tryd.ntmps14
  go_upto_region 1 with (fail)
  go_cut [27] (fun v27 wc => ∃ (kq : Nat) (x27_3 : Bool), v27 = .bool x27_3 ∧ Aside0 (laws_chained.j0 kq a0 a1 a2 x27_3 = some r) ∧ Aside0 (kq ≤ k) ∧ Drawn0 w wc)
  case first =>
    have H := HC4.out
    clear HC4
    by_cases c5 : a0 ≤ 0
    · rw [if_pos c5] at H
      have c5b0 : decide (a0 ≤ 0) = true := decide_eq_true c5
      clear c5
      (first | rw [c5b0] | (simp only [i64_w, i32_w]; rw [c5b0]) | skip)
      by_cases c6 : a1 ≤ 0
      · rw [if_pos c6] at H
        have c6b0 : decide (a1 ≤ 0) = true := decide_eq_true c6
        clear c6
        by_cases c7 : a2 > 0
        · rw [if_pos c7] at H
          have c7b0 : decide (0 < a2) = true := decide_eq_true c7
          clear c7
          have H' := Aside0.mk H
          clear H
          go_wp2
          go_meet
          case rel => exact ⟨_, (true), (by first | rfl | (simp; done) | (simp [*]; done) | (simp [bne_nil_]; done)), H', ⟨by first | omega | exact Nat.le_refl _⟩, by repeat (first | exact Drawn0.refl _ | apply Drawn0.step)⟩
        · rw [if_neg c7] at H
          have c7b0 : decide (0 < a2) = false := decide_eq_false c7
          clear c7
          by_cases c8 : a0 = 0
          · rw [if_pos c8] at H
            have c8b0 : (a0 == 0) = true := beq_iff_eq.mpr c8
            have c8b1 : (a0 != 0) = false := bne_eq_false_iff_eq.mpr c8
            clear c8
            have H' := Aside0.mk H
            clear H
            go_wp2
            go_meet
            case rel => exact ⟨_, (((a2 == 0) != (a1 == 0))), (by first | rfl | (simp; done) | (simp [*]; done) | (simp [bne_nil_]; done)), H', ⟨by first | omega | exact Nat.le_refl _⟩, by repeat (first | exact Drawn0.refl _ | apply Drawn0.step)⟩
          · rw [if_neg c8] at H
            have c8b0 : (a0 == 0) = false := beq_eq_false_iff_ne.mpr c8
            have c8b1 : (a0 != 0) = true := bne_iff_ne.mpr c8
            have H' := Aside0.mk H
            clear H
            go_wp2
            go_meet
            case rel => exact ⟨_, (((a2 == 0) != false)), (by first | rfl | (simp; done) | (simp [*]; done) | (simp [bne_nil_]; done)), H', ⟨by first | omega | exact Nat.le_refl _⟩, by repeat (first | exact Drawn0.refl _ | apply Drawn0.step)⟩
      · rw [if_neg c6] at H
        have c6b0 : decide (a1 ≤ 0) = false := decide_eq_false c6
        clear c6
        have H' := Aside0.mk H
        clear H
        go_wp2
        go_meet
        case rel => exact ⟨_, (false), (by first | rfl | (simp; done) | (simp [*]; done) | (simp [bne_nil_]; done)), H', ⟨by first | omega | exact Nat.le_refl _⟩, by repeat (first | exact Drawn0.refl _ | apply Drawn0.step)⟩
    · rw [if_neg c5] at H
      have c5b0 : decide (a0 ≤ 0) = false := decide_eq_false c5
      clear c5
      (first | rw [c5b0] | (simp only [i64_w, i32_w]; rw [c5b0]) | skip)
      have H' := Aside0.mk H
      clear H
      go_wp2
      go_meet
      case rel => exact ⟨_, (false), (by first | rfl | (simp; done) | (simp [*]; done) | (simp [bne_nil_]; done)), H', ⟨by first | omega | exact Nat.le_refl _⟩, by repeat (first | exact Drawn0.refl _ | apply Drawn0.step)⟩
  case rest =>
    clear HC4
    try clear c1
    try clear p2
    try clear c5
    try clear c5b0
    try clear c6
    try clear c6b0
    try clear c7
    try clear c7b0
    try clear c8
    try clear c8b0
    try clear c8b1
    obtain ⟨kq, x27_3, rfl, HA, HJ3, ⟨mc3, rfl⟩⟩ := hcut
    cases kq with
    | zero => exact absurd HA.out (by simp [laws_chained.j0])
    | succ kj3 =>
      have H := HA.out
      clear HA
      simp only [laws_chained.j0] at H
      by_cases c9 : x27_3 = true
      · subst c9
        have H1 : (some false) = some r := by rw [if_pos rfl] at H; exact H
        clear H
        have H := H1
        clear H1
        obtain rfl := Option.some.inj H
        go_wp2
        go_ret
        exact ⟨by first | rfl | (simp; done) | (simp [*]; done) | (simp [bne_nil_]; done), by repeat (first | exact Drawn0.refl _ | apply Drawn0.step)⟩
      · replace c9 := Bool.eq_false_iff.mpr c9
        subst c9
        have H1 : (if a0 ≥ 0 then (if a1 ≥ 0 then (if a2 < 0 then (some false) else (if a0 = 0 then (if ((a2 == 0) != (a1 == 0)) = true then (some false) else (some true)) else (if ((a2 == 0) != false) = true then (some false) else (some true)))) else (some true)) else (some true)) = some r := by rw [if_neg (show ¬ (false = true) by decide)] at H; exact H
        clear H
        have H := H1
        clear H1
        by_cases c10 : a0 ≥ 0
        · rw [if_pos c10] at H
          have c10b0 : decide (0 ≤ a0) = true := decide_eq_true c10
          clear c10
          by_cases c11 : a1 ≥ 0
          · rw [if_pos c11] at H
            have c11b0 : decide (0 ≤ a1) = true := decide_eq_true c11
            clear c11
            by_cases c12 : a2 < 0
            · rw [if_pos c12] at H
              have c12b0 : decide (a2 < 0) = true := decide_eq_true c12
              clear c12
              obtain rfl := Option.some.inj H
              go_wp2
              go_ret
              exact ⟨by first | rfl | (simp; done) | (simp [*]; done) | (simp [bne_nil_]; done), by repeat (first | exact Drawn0.refl _ | apply Drawn0.step)⟩
            · rw [if_neg c12] at H
              have c12b0 : decide (a2 < 0) = false := decide_eq_false c12
              clear c12
              by_cases c13 : a0 = 0
              · rw [if_pos c13] at H
                have c13b0 : (a0 == 0) = true := beq_iff_eq.mpr c13
                have c13b1 : (a0 != 0) = false := bne_eq_false_iff_eq.mpr c13
                clear c13
                by_cases c14 : ((a2 == 0) != (a1 == 0)) = true
                · rw [if_pos c14] at H
                  have c14b0 : ((a2 == 0) != (a1 == 0)) = true := c14
                  (try (have c14b1 : decide ((a2 == 0) = (a1 == 0)) = false := by simpa using c14))
                  (try (have c14b2 : ((a2 == 0) == (a1 == 0)) = false := by simpa using c14))
                  (try (have c14b3 : ¬ ((a2 == 0) = (a1 == 0)) := by simpa using c14))
                  clear c14
                  obtain rfl := Option.some.inj H
                  go_wp2
                  go_ret
                  exact ⟨by first | rfl | (simp; done) | (simp [*]; done) | (simp [bne_nil_]; done), by repeat (first | exact Drawn0.refl _ | apply Drawn0.step)⟩
                · rw [if_neg c14] at H
                  have c14b0 : ((a2 == 0) != (a1 == 0)) = false := by simpa using c14
                  (try (have c14b1 : decide ((a2 == 0) = (a1 == 0)) = true := by simpa using c14))
                  (try (have c14b2 : ((a2 == 0) == (a1 == 0)) = true := by simpa using c14))
                  clear c14
                  obtain rfl := Option.some.inj H
                  go_wp2
                  go_ret
                  exact ⟨by first | rfl | (simp; done) | (simp [*]; done) | (simp [bne_nil_]; done), by repeat (first | exact Drawn0.refl _ | apply Drawn0.step)⟩
              · rw [if_neg c13] at H
                have c13b0 : (a0 == 0) = false := beq_eq_false_iff_ne.mpr c13
                have c13b1 : (a0 != 0) = true := bne_iff_ne.mpr c13
                by_cases c15 : ((a2 == 0) != false) = true
                · rw [if_pos c15] at H
                  have c15b0 : ((a2 == 0) != false) = true := c15
                  (try (have c15b1 : decide ((a2 == 0) = false) = false := by simpa using c15))
                  (try (have c15b2 : ((a2 == 0) == false) = false := by simpa using c15))
                  (try (have c15b3 : ¬ ((a2 == 0) = false) := by simpa using c15))
                  clear c15
                  obtain rfl := Option.some.inj H
                  go_wp2
                  go_ret
                  exact ⟨by first | rfl | (simp; done) | (simp [*]; done) | (simp [bne_nil_]; done), by repeat (first | exact Drawn0.refl _ | apply Drawn0.step)⟩
                · rw [if_neg c15] at H
                  have c15b0 : ((a2 == 0) != false) = false := by simpa using c15
                  (try (have c15b1 : decide ((a2 == 0) = false) = true := by simpa using c15))
                  (try (have c15b2 : ((a2 == 0) == false) = true := by simpa using c15))
                  clear c15
                  obtain rfl := Option.some.inj H
                  go_wp2
                  go_ret
                  exact ⟨by first | rfl | (simp; done) | (simp [*]; done) | (simp [bne_nil_]; done), by repeat (first | exact Drawn0.refl _ | apply Drawn0.step)⟩
          · rw [if_neg c11] at H
            have c11b0 : decide (0 ≤ a1) = false := decide_eq_false c11
            clear c11
            obtain rfl := Option.some.inj H
            go_wp2
            go_ret
            exact ⟨by first | rfl | (simp; done) | (simp [*]; done) | (simp [bne_nil_]; done), by repeat (first | exact Drawn0.refl _ | apply Drawn0.step)⟩
        · rw [if_neg c10] at H
          have c10b0 : decide (0 ≤ a0) = false := decide_eq_false c10
          clear c10
          obtain rfl := Option.some.inj H
          go_wp2
          go_ret
          exact ⟨by first | rfl | (simp; done) | (simp [*]; done) | (simp [bne_nil_]; done), by repeat (first | exact Drawn0.refl _ | apply Drawn0.step)⟩

/-! ### laws_FnRedHatPartsOrder: function 4 -/
mutual
def laws_FnRedHatPartsOrder.j0 : Nat → ByteArray → ByteArray → ByteArray → Bool → Option (Bool)
  | 0, _, _, _, _ => none
  | k + 1, x0, x1, x2, x19 => if x19 = true then (some true) else ((laws_short.f k (([x0, x1, x2] : List ByteArray))).bind fun t126 => (if t126 = true then ((laws_plain.f k x0 (⟨#[46, 95, 43, 126, 94]⟩ : ByteArray)).bind fun t127 => (if t127 = true then ((laws_plain.f k x1 (⟨#[46, 95, 43, 126, 94]⟩ : ByteArray)).bind fun t128 => (if t128 = true then ((laws_plain.f k x2 (⟨#[46, 95, 43, 126, 94]⟩ : ByteArray)).bind fun t129 => (laws_FnRedHatPartsOrder.j1 k x0 x1 x2 (!t129))) else (laws_FnRedHatPartsOrder.j1 k x0 x1 x2 true))) else (laws_FnRedHatPartsOrder.j1 k x0 x1 x2 true))) else (laws_FnRedHatPartsOrder.j1 k x0 x1 x2 true)))
def laws_FnRedHatPartsOrder.j1 : Nat → ByteArray → ByteArray → ByteArray → Bool → Option (Bool)
  | 0, _, _, _, _ => none
  | k + 1, x0, x1, x2, x40 => if x40 = true then (some true) else ((laws_redhatAwake.f).bind fun t130 => (if t130 = true then ((impl_RedHatParts.f x0 x0).bind fun t131 => (if t131 = 0 then ((impl_RedHatParts.f x0 x1).bind fun t132 => ((impl_RedHatParts.f x1 x2).bind fun t133 => ((impl_RedHatParts.f x0 x2).bind fun t134 => ((laws_chained.f k t132 t133 t134).bind fun t135 => (some t135))))) else (some false))) else (some false)))
end
def laws_FnRedHatPartsOrder.f (k : Nat) (a0 : ByteArray) (a1 : ByteArray) (a2 : ByteArray) : Option (Bool) := if (a0.size : Int) > 2147483647 then (laws_FnRedHatPartsOrder.j0 k a0 a1 a2 true) else (if (a1.size : Int) > 2147483647 then (laws_FnRedHatPartsOrder.j0 k a0 a1 a2 true) else (laws_FnRedHatPartsOrder.j0 k a0 a1 a2 (decide ((a2.size : Int) > 2147483647))))
theorem laws_FnRedHatPartsOrder.mono_l : ∀ k, (∀ y0 y1 y2 y3, LeO (laws_FnRedHatPartsOrder.j0 k y0 y1 y2 y3) (laws_FnRedHatPartsOrder.j0 (k + 1) y0 y1 y2 y3)) ∧ (∀ y0 y1 y2 y3, LeO (laws_FnRedHatPartsOrder.j1 k y0 y1 y2 y3) (laws_FnRedHatPartsOrder.j1 (k + 1) y0 y1 y2 y3))
  | 0 => ⟨fun _ _ _ _ r h => by simp [laws_FnRedHatPartsOrder.j0] at h, fun _ _ _ _ r h => by simp [laws_FnRedHatPartsOrder.j1] at h⟩
  | k + 1 => by
    obtain ⟨ih0, ih1⟩ := laws_FnRedHatPartsOrder.mono_l k
    refine ⟨?_, ?_⟩
    · intro y0 y1 y2 y3
      unfold laws_FnRedHatPartsOrder.j0
      repeat' first
      | (with_reducible exact ih0 _ _ _ _)
      | (with_reducible exact ih1 _ _ _ _)
      | (with_reducible exact laws_chained.mono _ _ _ _)
      | (with_reducible exact laws_plain.mono _ _ _)
      | (with_reducible exact laws_short.mono _ _)
      | (with_reducible exact LeO.refl _)
      | (with_reducible exact LeO.none _)
      | (with_reducible refine LeO.ite ?_ ?_)
      | (with_reducible refine LeO.bind ?_ (fun _ => ?_))
      | exact ih0 _ _ _ _
      | exact ih1 _ _ _ _
      | exact laws_chained.mono _ _ _ _
      | exact laws_plain.mono _ _ _
      | exact laws_short.mono _ _
      | exact LeO.none _
      | refine LeO.ite ?_ ?_
      | refine LeO.bind ?_ (fun _ => ?_)
    · intro y0 y1 y2 y3
      unfold laws_FnRedHatPartsOrder.j1
      repeat' first
      | (with_reducible exact ih0 _ _ _ _)
      | (with_reducible exact ih1 _ _ _ _)
      | (with_reducible exact laws_chained.mono _ _ _ _)
      | (with_reducible exact laws_plain.mono _ _ _)
      | (with_reducible exact laws_short.mono _ _)
      | (with_reducible exact LeO.refl _)
      | (with_reducible exact LeO.none _)
      | (with_reducible refine LeO.ite ?_ ?_)
      | (with_reducible refine LeO.bind ?_ (fun _ => ?_))
      | exact ih0 _ _ _ _
      | exact ih1 _ _ _ _
      | exact laws_chained.mono _ _ _ _
      | exact laws_plain.mono _ _ _
      | exact laws_short.mono _ _
      | exact LeO.none _
      | refine LeO.ite ?_ ?_
      | refine LeO.bind ?_ (fun _ => ?_)
theorem laws_FnRedHatPartsOrder.mono : ∀ a0 a1 a2 k, LeO (laws_FnRedHatPartsOrder.f k a0 a1 a2) (laws_FnRedHatPartsOrder.f (k + 1) a0 a1 a2) := by
  intro a0 a1 a2 k
  obtain ⟨ih0, ih1⟩ := laws_FnRedHatPartsOrder.mono_l k
  unfold laws_FnRedHatPartsOrder.f
  repeat' first
      | (with_reducible exact ih0 _ _ _ _)
      | (with_reducible exact ih1 _ _ _ _)
      | (with_reducible exact laws_chained.mono _ _ _ _)
      | (with_reducible exact laws_plain.mono _ _ _)
      | (with_reducible exact laws_short.mono _ _)
      | (with_reducible exact LeO.refl _)
      | (with_reducible exact LeO.none _)
      | (with_reducible refine LeO.ite ?_ ?_)
      | (with_reducible refine LeO.bind ?_ (fun _ => ?_))
      | exact ih0 _ _ _ _
      | exact ih1 _ _ _ _
      | exact laws_chained.mono _ _ _ _
      | exact laws_plain.mono _ _ _
      | exact laws_short.mono _ _
      | exact LeO.none _
      | refine LeO.ite ?_ ?_
      | refine LeO.bind ?_ (fun _ => ?_)
set_option maxHeartbeats 8000000 in
set_option maxRecDepth 100000 in
theorem laws_FnRedHatPartsOrder.calls (k : Nat) (a0 : ByteArray) (a1 : ByteArray) (a2 : ByteArray) (r : Bool) (w : World) (h : laws_FnRedHatPartsOrder.f k a0 a1 a2 = some r) :
    Calls Tryd.prog 4 #[.string a0, .string a1, .string a2] w fun e w' => e = .returned (.bool r) ∧ Below w.heap.size w w' := by
  have HB := Aside0.mk (Below.refl w.heap.size w)
  have H : (if (a0.size : Int) > 2147483647 then (laws_FnRedHatPartsOrder.j0 k a0 a1 a2 true) else (if (a1.size : Int) > 2147483647 then (laws_FnRedHatPartsOrder.j0 k a0 a1 a2 true) else (laws_FnRedHatPartsOrder.j0 k a0 a1 a2 (decide ((a2.size : Int) > 2147483647))))) = some r := h
  clear h
  have HC4 := Aside0.mk H
  clear H
  go_enter Tryd.func4, Tryd.ntmps4
  go_upto_region 1 with (fail)
  go_cut [19] (fun v19 wc => ∃ (kq : Nat) (x19_3 : Bool), v19 = .bool x19_3 ∧ Aside0 (laws_FnRedHatPartsOrder.j0 kq a0 a1 a2 x19_3 = some r) ∧ Aside0 (kq ≤ k) ∧ Aside0 (Below w.heap.size w wc))
  case first =>
    have H := HC4.out
    clear HC4
    by_cases c5 : (a0.size : Int) > 2147483647
    · rw [if_pos c5] at H
      have c5b0 : decide (2147483647 < (a0.size : Int)) = true := decide_eq_true c5
      have c5b1 : decide (2147483647 < a0.size) = true := decide_eq_true (by omega)
      clear c5
      (first | rw [c5b0] | (simp only [i64_w, i32_w]; rw [c5b0]) | skip)
      have H' := Aside0.mk H
      clear H
      go_wp2
      go_meet
      case rel => exact ⟨_, (true), (by first | rfl | (simp; done) | (simp [*]; done) | (simp [bne_nil_]; done)), H', ⟨by first | omega | exact Nat.le_refl _⟩, ⟨by repeat (first | (with_reducible first | exact HB.out | apply below_alloc | apply pw_below_drewN | apply below_drew1) | exact HB.out)⟩⟩
    · rw [if_neg c5] at H
      have c5b0 : decide (2147483647 < (a0.size : Int)) = false := decide_eq_false c5
      have c5b1 : decide (2147483647 < a0.size) = false := decide_eq_false (by omega)
      clear c5
      (first | rw [c5b0] | (simp only [i64_w, i32_w]; rw [c5b0]) | skip)
      by_cases c6 : (a1.size : Int) > 2147483647
      · rw [if_pos c6] at H
        have c6b0 : decide (2147483647 < (a1.size : Int)) = true := decide_eq_true c6
        have c6b1 : decide (2147483647 < a1.size) = true := decide_eq_true (by omega)
        clear c6
        have H' := Aside0.mk H
        clear H
        go_wp2
        go_meet
        case rel => exact ⟨_, (true), (by first | rfl | (simp; done) | (simp [*]; done) | (simp [bne_nil_]; done)), H', ⟨by first | omega | exact Nat.le_refl _⟩, ⟨by repeat (first | (with_reducible first | exact HB.out | apply below_alloc | apply pw_below_drewN | apply below_drew1) | exact HB.out)⟩⟩
      · rw [if_neg c6] at H
        have c6b0 : decide (2147483647 < (a1.size : Int)) = false := decide_eq_false c6
        have c6b1 : decide (2147483647 < a1.size) = false := decide_eq_false (by omega)
        clear c6
        have H' := Aside0.mk H
        clear H
        go_wp2
        go_meet
        case rel => exact ⟨_, (decide ((a2.size : Int) > 2147483647)), (by first | rfl | (simp; done) | (simp [*]; done) | (simp [bne_nil_]; done)), H', ⟨by first | omega | exact Nat.le_refl _⟩, ⟨by repeat (first | (with_reducible first | exact HB.out | apply below_alloc | apply pw_below_drewN | apply below_drew1) | exact HB.out)⟩⟩
  case rest =>
    clear HC4
    try clear p2
    try clear c4
    try clear c5
    try clear c5b0
    try clear c5b1
    try clear c6
    try clear c6b0
    try clear c6b1
    obtain ⟨kq, x19_3, rfl, HA, HJ3, HB⟩ := hcut
    cases kq with
    | zero => exact absurd HA.out (by simp [laws_FnRedHatPartsOrder.j0])
    | succ kj3 =>
      have H := HA.out
      clear HA
      simp only [laws_FnRedHatPartsOrder.j0] at H
      by_cases c7 : x19_3 = true
      · subst c7
        have H1 : (some true) = some r := by rw [if_pos rfl] at H; exact H
        clear H
        have H := H1
        clear H1
        obtain rfl := Option.some.inj H
        go_wp2
        go_ret
        exact ⟨by first | rfl | (simp [errW_none, errW_some] <;> rfl) | (simp [*, errW_none, errW_some] <;> rfl) | (simp [bne_nil_]; done), by repeat (first | (with_reducible first | exact HB.out | apply below_alloc | apply pw_below_drewN | apply below_drew1) | exact HB.out)⟩
      · replace c7 := Bool.eq_false_iff.mpr c7
        subst c7
        have H1 : ((laws_short.f kj3 (([a0, a1, a2] : List ByteArray))).bind fun t126 => (if t126 = true then ((laws_plain.f kj3 a0 (⟨#[46, 95, 43, 126, 94]⟩ : ByteArray)).bind fun t127 => (if t127 = true then ((laws_plain.f kj3 a1 (⟨#[46, 95, 43, 126, 94]⟩ : ByteArray)).bind fun t128 => (if t128 = true then ((laws_plain.f kj3 a2 (⟨#[46, 95, 43, 126, 94]⟩ : ByteArray)).bind fun t129 => (laws_FnRedHatPartsOrder.j1 kj3 a0 a1 a2 (!t129))) else (laws_FnRedHatPartsOrder.j1 kj3 a0 a1 a2 true))) else (laws_FnRedHatPartsOrder.j1 kj3 a0 a1 a2 true))) else (laws_FnRedHatPartsOrder.j1 kj3 a0 a1 a2 true))) = some r := by rw [if_neg (show ¬ (false = true) by decide)] at H; exact H
        clear H
        have H := H1
        clear H1
        have HC8 := Aside0.mk H
        clear H
        go_upto_region 3 with (fail)
        go_cut [40] (fun v40 wc => ∃ (kq : Nat) (x40_7 : Bool), v40 = .bool x40_7 ∧ Aside0 (laws_FnRedHatPartsOrder.j1 kq a0 a1 a2 x40_7 = some r) ∧ Aside0 (kq ≤ kj3) ∧ Aside0 (Below w.heap.size w wc))
        case first =>
          have H := HC8.out
          clear HC8
          obtain ⟨y123, hy123⟩ : ∃ y_ : List ByteArray, y_ = (([a0, a1, a2] : List ByteArray)) := ⟨_, rfl⟩
          replace H : ((laws_short.f kj3 y123).bind fun t126 => (if t126 = true then ((laws_plain.f kj3 a0 (⟨#[46, 95, 43, 126, 94]⟩ : ByteArray)).bind fun t127 => (if t127 = true then ((laws_plain.f kj3 a1 (⟨#[46, 95, 43, 126, 94]⟩ : ByteArray)).bind fun t128 => (if t128 = true then ((laws_plain.f kj3 a2 (⟨#[46, 95, 43, 126, 94]⟩ : ByteArray)).bind fun t129 => (laws_FnRedHatPartsOrder.j1 kj3 a0 a1 a2 (!t129))) else (laws_FnRedHatPartsOrder.j1 kj3 a0 a1 a2 true))) else (laws_FnRedHatPartsOrder.j1 kj3 a0 a1 a2 true))) else (laws_FnRedHatPartsOrder.j1 kj3 a0 a1 a2 true))) = some r := by first | (rw [hy123]; with_reducible exact H) | (have H2_ := (Option.bind_some _ _).symm.trans H; rw [hy123]; with_reducible exact H2_) | (have H2_ := (Option.bind_some _ _).symm.trans H; with_reducible exact H2_) | with_reducible exact H | (rw [hy123]; exact H) | exact H
          have Ny123 := Aside0.mk hy123
          clear hy123
          replace H := Option.bind_eq_some_iff.mp H
          obtain ⟨t126, A90, H⟩ := H
          replace H : (if t126 = true then ((laws_plain.f kj3 a0 (⟨#[46, 95, 43, 126, 94]⟩ : ByteArray)).bind fun t127 => (if t127 = true then ((laws_plain.f kj3 a1 (⟨#[46, 95, 43, 126, 94]⟩ : ByteArray)).bind fun t128 => (if t128 = true then ((laws_plain.f kj3 a2 (⟨#[46, 95, 43, 126, 94]⟩ : ByteArray)).bind fun t129 => (laws_FnRedHatPartsOrder.j1 kj3 a0 a1 a2 (!t129))) else (laws_FnRedHatPartsOrder.j1 kj3 a0 a1 a2 true))) else (laws_FnRedHatPartsOrder.j1 kj3 a0 a1 a2 true))) else (laws_FnRedHatPartsOrder.j1 kj3 a0 a1 a2 true)) = some r := H
          have A9 := Aside0.mk A90
          clear A90
          by_cases c10 : t126 = true
          · subst c10
            have H1 : ((laws_plain.f kj3 a0 (⟨#[46, 95, 43, 126, 94]⟩ : ByteArray)).bind fun t127 => (if t127 = true then ((laws_plain.f kj3 a1 (⟨#[46, 95, 43, 126, 94]⟩ : ByteArray)).bind fun t128 => (if t128 = true then ((laws_plain.f kj3 a2 (⟨#[46, 95, 43, 126, 94]⟩ : ByteArray)).bind fun t129 => (laws_FnRedHatPartsOrder.j1 kj3 a0 a1 a2 (!t129))) else (laws_FnRedHatPartsOrder.j1 kj3 a0 a1 a2 true))) else (laws_FnRedHatPartsOrder.j1 kj3 a0 a1 a2 true))) = some r := by rw [if_pos rfl] at H; exact H
            clear H
            have H := H1
            clear H1
            replace H := Option.bind_eq_some_iff.mp H
            obtain ⟨t127, A110, H⟩ := H
            replace H : (if t127 = true then ((laws_plain.f kj3 a1 (⟨#[46, 95, 43, 126, 94]⟩ : ByteArray)).bind fun t128 => (if t128 = true then ((laws_plain.f kj3 a2 (⟨#[46, 95, 43, 126, 94]⟩ : ByteArray)).bind fun t129 => (laws_FnRedHatPartsOrder.j1 kj3 a0 a1 a2 (!t129))) else (laws_FnRedHatPartsOrder.j1 kj3 a0 a1 a2 true))) else (laws_FnRedHatPartsOrder.j1 kj3 a0 a1 a2 true)) = some r := H
            have A11 := Aside0.mk A110
            clear A110
            by_cases c12 : t127 = true
            · subst c12
              have H1 : ((laws_plain.f kj3 a1 (⟨#[46, 95, 43, 126, 94]⟩ : ByteArray)).bind fun t128 => (if t128 = true then ((laws_plain.f kj3 a2 (⟨#[46, 95, 43, 126, 94]⟩ : ByteArray)).bind fun t129 => (laws_FnRedHatPartsOrder.j1 kj3 a0 a1 a2 (!t129))) else (laws_FnRedHatPartsOrder.j1 kj3 a0 a1 a2 true))) = some r := by rw [if_pos rfl] at H; exact H
              clear H
              have H := H1
              clear H1
              replace H := Option.bind_eq_some_iff.mp H
              obtain ⟨t128, A130, H⟩ := H
              replace H : (if t128 = true then ((laws_plain.f kj3 a2 (⟨#[46, 95, 43, 126, 94]⟩ : ByteArray)).bind fun t129 => (laws_FnRedHatPartsOrder.j1 kj3 a0 a1 a2 (!t129))) else (laws_FnRedHatPartsOrder.j1 kj3 a0 a1 a2 true)) = some r := H
              have A13 := Aside0.mk A130
              clear A130
              by_cases c14 : t128 = true
              · subst c14
                have H1 : ((laws_plain.f kj3 a2 (⟨#[46, 95, 43, 126, 94]⟩ : ByteArray)).bind fun t129 => (laws_FnRedHatPartsOrder.j1 kj3 a0 a1 a2 (!t129))) = some r := by rw [if_pos rfl] at H; exact H
                clear H
                have H := H1
                clear H1
                replace H := Option.bind_eq_some_iff.mp H
                obtain ⟨t129, A150, H⟩ := H
                replace H : (laws_FnRedHatPartsOrder.j1 kj3 a0 a1 a2 (!t129)) = some r := H
                have A15 := Aside0.mk A150
                clear A150
                have H' := Aside0.mk H
                clear H
                go_wp2_with (first | ((with_reducible refine gate_dst (N := 23) rfl ?_); (try (refine gate_guard (by rfl) ?_; dsimp only)); refine Kd.R_lit Kd.string _ 9 ?hg (N := 23) ?hd (xs := ([a0, a1, a2] : List ByteArray)) (inner := [.string a0, .string a1, .string a2]) (ok := fun _ => True) (okp := fun _ => True) ?hr ?hp (fun _ hk => hk) trivial (Below.refl _ _) (Nat.le_refl _) (by simp) ?_; (case hd => rfl); (case hg => rfl); (case hr => first | (go_simp; done) | (go_simp; rfl)); (case hp => exact (Reps.one (show Kd.M Kd.string _ _ _ a0 [.string a0] from rfl) (Reps.one (show Kd.M Kd.string _ _ _ a1 [.string a1] from rfl) (Reps.one (show Kd.M Kd.string _ _ _ a2 [.string a2] from rfl) (Reps.none _ _))))); intro v124 w16 ho17 hb hg_ hnew_; clear hg_ hnew_; (first | rw [← Ny123.out] at ho17 | (simp only [Int.reduceToNat] at ho17; rw [← Ny123.out] at ho17)); have n0_ := Aside0.mk (Kd.R_lower ho17 (below_size (by repeat (first | (with_reducible first | exact HB.out | apply below_alloc | apply pw_below_drewN | apply below_drew1) | exact HB.out)))); have n1_ := Aside0.mk (below_step (by repeat (first | (with_reducible first | exact HB.out | apply below_alloc | apply pw_below_drewN | apply below_drew1) | exact HB.out)) hb); clear HB; have HO125 := n0_; have HB := n1_; clear n0_ n1_; clear hb ho17; obtain ⟨Ao18, co18, eo18⟩ := Kd.R_slice HO125.out; subst eo18) | ((with_reducible refine gate_callee (f := 7) rfl ?_); refine goesL_ (some 24) rfl rfl Tryd.func7 (by kernel_rfl) rfl #[.slice Ao18 y123.length co18] rfl (by (try simp only [List.map_toArray, List.map_cons, List.map_nil]); first | done | rfl | (simp only [List.length_drop, List.length_take]; rfl)) ?_; (with_reducible refine (laws_short.calls kj3 _ _ y123 true _ ?side1 ?side2 A9.out).mono ?_); (case side1 => repeat (first | exact (Kd.R_reads' HO125.out).2.2 | (with_reducible refine Kd.C_alloc ?_ _) | (with_reducible refine Kd.C_drewN ?_ _) | (with_reducible refine Kd.C_drew ?_))); (case side2 => exact (Kd.R_reads' HO125.out).2.1); rintro e w' ⟨rfl, ⟨nd, rfl⟩⟩; refine ⟨_, rfl, ?_⟩) | (go_at_call 8; (with_reducible refine (laws_plain.calls kj3 a0 (⟨#[46, 95, 43, 126, 94]⟩ : ByteArray) true _ A11.out).mono ?_); rintro e w' ⟨rfl, ⟨nd, rfl⟩⟩) | (go_at_call 8; (with_reducible refine (laws_plain.calls kj3 a1 (⟨#[46, 95, 43, 126, 94]⟩ : ByteArray) true _ A13.out).mono ?_); rintro e w' ⟨rfl, ⟨nd, rfl⟩⟩) | (go_at_call 8; (with_reducible refine (laws_plain.calls kj3 a2 (⟨#[46, 95, 43, 126, 94]⟩ : ByteArray) t129 _ A15.out).mono ?_); rintro e w' ⟨rfl, ⟨nd, rfl⟩⟩))
                go_meet
                case rel => exact ⟨_, (!t129), (by first | rfl | (simp; done) | (simp [*]; done) | (simp [bne_nil_]; done)), H', ⟨by have := HJ3.out; first | omega | exact Nat.le_refl _⟩, ⟨by repeat (first | (with_reducible first | exact HB.out | apply below_alloc | apply pw_below_drewN | apply below_drew1) | exact HB.out)⟩⟩
              · replace c14 := Bool.eq_false_iff.mpr c14
                subst c14
                have H1 : (laws_FnRedHatPartsOrder.j1 kj3 a0 a1 a2 true) = some r := by rw [if_neg (show ¬ (false = true) by decide)] at H; exact H
                clear H
                have H := H1
                clear H1
                have H' := Aside0.mk H
                clear H
                go_wp2_with (first | ((with_reducible refine gate_dst (N := 23) rfl ?_); (try (refine gate_guard (by rfl) ?_; dsimp only)); refine Kd.R_lit Kd.string _ 9 ?hg (N := 23) ?hd (xs := ([a0, a1, a2] : List ByteArray)) (inner := [.string a0, .string a1, .string a2]) (ok := fun _ => True) (okp := fun _ => True) ?hr ?hp (fun _ hk => hk) trivial (Below.refl _ _) (Nat.le_refl _) (by simp) ?_; (case hd => rfl); (case hg => rfl); (case hr => first | (go_simp; done) | (go_simp; rfl)); (case hp => exact (Reps.one (show Kd.M Kd.string _ _ _ a0 [.string a0] from rfl) (Reps.one (show Kd.M Kd.string _ _ _ a1 [.string a1] from rfl) (Reps.one (show Kd.M Kd.string _ _ _ a2 [.string a2] from rfl) (Reps.none _ _))))); intro v124 w19 ho20 hb hg_ hnew_; clear hg_ hnew_; (first | rw [← Ny123.out] at ho20 | (simp only [Int.reduceToNat] at ho20; rw [← Ny123.out] at ho20)); have n0_ := Aside0.mk (Kd.R_lower ho20 (below_size (by repeat (first | (with_reducible first | exact HB.out | apply below_alloc | apply pw_below_drewN | apply below_drew1) | exact HB.out)))); have n1_ := Aside0.mk (below_step (by repeat (first | (with_reducible first | exact HB.out | apply below_alloc | apply pw_below_drewN | apply below_drew1) | exact HB.out)) hb); clear HB; have HO125 := n0_; have HB := n1_; clear n0_ n1_; clear hb ho20; obtain ⟨Ao21, co21, eo21⟩ := Kd.R_slice HO125.out; subst eo21) | ((with_reducible refine gate_callee (f := 7) rfl ?_); refine goesL_ (some 24) rfl rfl Tryd.func7 (by kernel_rfl) rfl #[.slice Ao21 y123.length co21] rfl (by (try simp only [List.map_toArray, List.map_cons, List.map_nil]); first | done | rfl | (simp only [List.length_drop, List.length_take]; rfl)) ?_; (with_reducible refine (laws_short.calls kj3 _ _ y123 true _ ?side1 ?side2 A9.out).mono ?_); (case side1 => repeat (first | exact (Kd.R_reads' HO125.out).2.2 | (with_reducible refine Kd.C_alloc ?_ _) | (with_reducible refine Kd.C_drewN ?_ _) | (with_reducible refine Kd.C_drew ?_))); (case side2 => exact (Kd.R_reads' HO125.out).2.1); rintro e w' ⟨rfl, ⟨nd, rfl⟩⟩; refine ⟨_, rfl, ?_⟩) | (go_at_call 8; (with_reducible refine (laws_plain.calls kj3 a0 (⟨#[46, 95, 43, 126, 94]⟩ : ByteArray) true _ A11.out).mono ?_); rintro e w' ⟨rfl, ⟨nd, rfl⟩⟩) | (go_at_call 8; (with_reducible refine (laws_plain.calls kj3 a1 (⟨#[46, 95, 43, 126, 94]⟩ : ByteArray) false _ A13.out).mono ?_); rintro e w' ⟨rfl, ⟨nd, rfl⟩⟩))
                go_meet
                case rel => exact ⟨_, (true), (by first | rfl | (simp; done) | (simp [*]; done) | (simp [bne_nil_]; done)), H', ⟨by have := HJ3.out; first | omega | exact Nat.le_refl _⟩, ⟨by repeat (first | (with_reducible first | exact HB.out | apply below_alloc | apply pw_below_drewN | apply below_drew1) | exact HB.out)⟩⟩
            · replace c12 := Bool.eq_false_iff.mpr c12
              subst c12
              have H1 : (laws_FnRedHatPartsOrder.j1 kj3 a0 a1 a2 true) = some r := by rw [if_neg (show ¬ (false = true) by decide)] at H; exact H
              clear H
              have H := H1
              clear H1
              have H' := Aside0.mk H
              clear H
              go_wp2_with (first | ((with_reducible refine gate_dst (N := 23) rfl ?_); (try (refine gate_guard (by rfl) ?_; dsimp only)); refine Kd.R_lit Kd.string _ 9 ?hg (N := 23) ?hd (xs := ([a0, a1, a2] : List ByteArray)) (inner := [.string a0, .string a1, .string a2]) (ok := fun _ => True) (okp := fun _ => True) ?hr ?hp (fun _ hk => hk) trivial (Below.refl _ _) (Nat.le_refl _) (by simp) ?_; (case hd => rfl); (case hg => rfl); (case hr => first | (go_simp; done) | (go_simp; rfl)); (case hp => exact (Reps.one (show Kd.M Kd.string _ _ _ a0 [.string a0] from rfl) (Reps.one (show Kd.M Kd.string _ _ _ a1 [.string a1] from rfl) (Reps.one (show Kd.M Kd.string _ _ _ a2 [.string a2] from rfl) (Reps.none _ _))))); intro v124 w22 ho23 hb hg_ hnew_; clear hg_ hnew_; (first | rw [← Ny123.out] at ho23 | (simp only [Int.reduceToNat] at ho23; rw [← Ny123.out] at ho23)); have n0_ := Aside0.mk (Kd.R_lower ho23 (below_size (by repeat (first | (with_reducible first | exact HB.out | apply below_alloc | apply pw_below_drewN | apply below_drew1) | exact HB.out)))); have n1_ := Aside0.mk (below_step (by repeat (first | (with_reducible first | exact HB.out | apply below_alloc | apply pw_below_drewN | apply below_drew1) | exact HB.out)) hb); clear HB; have HO125 := n0_; have HB := n1_; clear n0_ n1_; clear hb ho23; obtain ⟨Ao24, co24, eo24⟩ := Kd.R_slice HO125.out; subst eo24) | ((with_reducible refine gate_callee (f := 7) rfl ?_); refine goesL_ (some 24) rfl rfl Tryd.func7 (by kernel_rfl) rfl #[.slice Ao24 y123.length co24] rfl (by (try simp only [List.map_toArray, List.map_cons, List.map_nil]); first | done | rfl | (simp only [List.length_drop, List.length_take]; rfl)) ?_; (with_reducible refine (laws_short.calls kj3 _ _ y123 true _ ?side1 ?side2 A9.out).mono ?_); (case side1 => repeat (first | exact (Kd.R_reads' HO125.out).2.2 | (with_reducible refine Kd.C_alloc ?_ _) | (with_reducible refine Kd.C_drewN ?_ _) | (with_reducible refine Kd.C_drew ?_))); (case side2 => exact (Kd.R_reads' HO125.out).2.1); rintro e w' ⟨rfl, ⟨nd, rfl⟩⟩; refine ⟨_, rfl, ?_⟩) | (go_at_call 8; (with_reducible refine (laws_plain.calls kj3 a0 (⟨#[46, 95, 43, 126, 94]⟩ : ByteArray) false _ A11.out).mono ?_); rintro e w' ⟨rfl, ⟨nd, rfl⟩⟩))
              go_meet
              case rel => exact ⟨_, (true), (by first | rfl | (simp; done) | (simp [*]; done) | (simp [bne_nil_]; done)), H', ⟨by have := HJ3.out; first | omega | exact Nat.le_refl _⟩, ⟨by repeat (first | (with_reducible first | exact HB.out | apply below_alloc | apply pw_below_drewN | apply below_drew1) | exact HB.out)⟩⟩
          · replace c10 := Bool.eq_false_iff.mpr c10
            subst c10
            have H1 : (laws_FnRedHatPartsOrder.j1 kj3 a0 a1 a2 true) = some r := by rw [if_neg (show ¬ (false = true) by decide)] at H; exact H
            clear H
            have H := H1
            clear H1
            have H' := Aside0.mk H
            clear H
            go_wp2_with (first | ((with_reducible refine gate_dst (N := 23) rfl ?_); (try (refine gate_guard (by rfl) ?_; dsimp only)); refine Kd.R_lit Kd.string _ 9 ?hg (N := 23) ?hd (xs := ([a0, a1, a2] : List ByteArray)) (inner := [.string a0, .string a1, .string a2]) (ok := fun _ => True) (okp := fun _ => True) ?hr ?hp (fun _ hk => hk) trivial (Below.refl _ _) (Nat.le_refl _) (by simp) ?_; (case hd => rfl); (case hg => rfl); (case hr => first | (go_simp; done) | (go_simp; rfl)); (case hp => exact (Reps.one (show Kd.M Kd.string _ _ _ a0 [.string a0] from rfl) (Reps.one (show Kd.M Kd.string _ _ _ a1 [.string a1] from rfl) (Reps.one (show Kd.M Kd.string _ _ _ a2 [.string a2] from rfl) (Reps.none _ _))))); intro v124 w25 ho26 hb hg_ hnew_; clear hg_ hnew_; (first | rw [← Ny123.out] at ho26 | (simp only [Int.reduceToNat] at ho26; rw [← Ny123.out] at ho26)); have n0_ := Aside0.mk (Kd.R_lower ho26 (below_size (by repeat (first | (with_reducible first | exact HB.out | apply below_alloc | apply pw_below_drewN | apply below_drew1) | exact HB.out)))); have n1_ := Aside0.mk (below_step (by repeat (first | (with_reducible first | exact HB.out | apply below_alloc | apply pw_below_drewN | apply below_drew1) | exact HB.out)) hb); clear HB; have HO125 := n0_; have HB := n1_; clear n0_ n1_; clear hb ho26; obtain ⟨Ao27, co27, eo27⟩ := Kd.R_slice HO125.out; subst eo27) | ((with_reducible refine gate_callee (f := 7) rfl ?_); refine goesL_ (some 24) rfl rfl Tryd.func7 (by kernel_rfl) rfl #[.slice Ao27 y123.length co27] rfl (by (try simp only [List.map_toArray, List.map_cons, List.map_nil]); first | done | rfl | (simp only [List.length_drop, List.length_take]; rfl)) ?_; (with_reducible refine (laws_short.calls kj3 _ _ y123 false _ ?side1 ?side2 A9.out).mono ?_); (case side1 => repeat (first | exact (Kd.R_reads' HO125.out).2.2 | (with_reducible refine Kd.C_alloc ?_ _) | (with_reducible refine Kd.C_drewN ?_ _) | (with_reducible refine Kd.C_drew ?_))); (case side2 => exact (Kd.R_reads' HO125.out).2.1); rintro e w' ⟨rfl, ⟨nd, rfl⟩⟩; refine ⟨_, rfl, ?_⟩))
            go_meet
            case rel => exact ⟨_, (true), (by first | rfl | (simp; done) | (simp [*]; done) | (simp [bne_nil_]; done)), H', ⟨by have := HJ3.out; first | omega | exact Nat.le_refl _⟩, ⟨by repeat (first | (with_reducible first | exact HB.out | apply below_alloc | apply pw_below_drewN | apply below_drew1) | exact HB.out)⟩⟩
        case rest =>
          clear HC8
          try clear c1
          try clear p2
          try clear c4
          try clear c5
          try clear c5b0
          try clear c5b1
          try clear c6
          try clear c6b0
          try clear c6b1
          try clear c7
          try clear c10
          try clear c12
          try clear c14
          try clear p2
          obtain ⟨kq, x40_7, rfl, HA, HJ7, HB⟩ := hcut
          cases kq with
          | zero => exact absurd HA.out (by simp [laws_FnRedHatPartsOrder.j1])
          | succ kj7 =>
            have H := HA.out
            clear HA
            simp only [laws_FnRedHatPartsOrder.j1] at H
            by_cases c28 : x40_7 = true
            · subst c28
              have H1 : (some true) = some r := by rw [if_pos rfl] at H; exact H
              clear H
              have H := H1
              clear H1
              obtain rfl := Option.some.inj H
              go_wp2
              go_ret
              exact ⟨by first | rfl | (simp [errW_none, errW_some] <;> rfl) | (simp [*, errW_none, errW_some] <;> rfl) | (simp [bne_nil_]; done), by repeat (first | (with_reducible first | exact HB.out | apply below_alloc | apply pw_below_drewN | apply below_drew1) | exact HB.out)⟩
            · replace c28 := Bool.eq_false_iff.mpr c28
              subst c28
              have H1 : ((laws_redhatAwake.f).bind fun t130 => (if t130 = true then ((impl_RedHatParts.f a0 a0).bind fun t131 => (if t131 = 0 then ((impl_RedHatParts.f a0 a1).bind fun t132 => ((impl_RedHatParts.f a1 a2).bind fun t133 => ((impl_RedHatParts.f a0 a2).bind fun t134 => ((laws_chained.f kj7 t132 t133 t134).bind fun t135 => (some t135))))) else (some false))) else (some false))) = some r := by rw [if_neg (show ¬ (false = true) by decide)] at H; exact H
              clear H
              have H := H1
              clear H1
              replace H := Option.bind_eq_some_iff.mp H
              obtain ⟨t130, A290, H⟩ := H
              replace H : (if t130 = true then ((impl_RedHatParts.f a0 a0).bind fun t131 => (if t131 = 0 then ((impl_RedHatParts.f a0 a1).bind fun t132 => ((impl_RedHatParts.f a1 a2).bind fun t133 => ((impl_RedHatParts.f a0 a2).bind fun t134 => ((laws_chained.f kj7 t132 t133 t134).bind fun t135 => (some t135))))) else (some false))) else (some false)) = some r := H
              have A29 := Aside0.mk A290
              clear A290
              by_cases c30 : t130 = true
              · subst c30
                have H1 : ((impl_RedHatParts.f a0 a0).bind fun t131 => (if t131 = 0 then ((impl_RedHatParts.f a0 a1).bind fun t132 => ((impl_RedHatParts.f a1 a2).bind fun t133 => ((impl_RedHatParts.f a0 a2).bind fun t134 => ((laws_chained.f kj7 t132 t133 t134).bind fun t135 => (some t135))))) else (some false))) = some r := by rw [if_pos rfl] at H; exact H
                clear H
                have H := H1
                clear H1
                replace H := Option.bind_eq_some_iff.mp H
                obtain ⟨t131, A310, H⟩ := H
                replace H : (if t131 = 0 then ((impl_RedHatParts.f a0 a1).bind fun t132 => ((impl_RedHatParts.f a1 a2).bind fun t133 => ((impl_RedHatParts.f a0 a2).bind fun t134 => ((laws_chained.f kj7 t132 t133 t134).bind fun t135 => (some t135))))) else (some false)) = some r := H
                have A31 := Aside0.mk A310
                clear A310
                by_cases c32 : t131 = 0
                · rw [if_pos c32] at H
                  have c32b0 : (t131 == 0) = true := beq_iff_eq.mpr c32
                  have c32b1 : (t131 != 0) = false := bne_eq_false_iff_eq.mpr c32
                  clear c32
                  replace H := Option.bind_eq_some_iff.mp H
                  obtain ⟨t132, A330, H⟩ := H
                  replace H : ((impl_RedHatParts.f a1 a2).bind fun t133 => ((impl_RedHatParts.f a0 a2).bind fun t134 => ((laws_chained.f kj7 t132 t133 t134).bind fun t135 => (some t135)))) = some r := H
                  have A33 := Aside0.mk A330
                  clear A330
                  replace H := Option.bind_eq_some_iff.mp H
                  obtain ⟨t133, A340, H⟩ := H
                  replace H : ((impl_RedHatParts.f a0 a2).bind fun t134 => ((laws_chained.f kj7 t132 t133 t134).bind fun t135 => (some t135))) = some r := H
                  have A34 := Aside0.mk A340
                  clear A340
                  replace H := Option.bind_eq_some_iff.mp H
                  obtain ⟨t134, A350, H⟩ := H
                  replace H : ((laws_chained.f kj7 t132 t133 t134).bind fun t135 => (some t135)) = some r := H
                  have A35 := Aside0.mk A350
                  clear A350
                  replace H := Option.bind_eq_some_iff.mp H
                  obtain ⟨t135, A360, H⟩ := H
                  replace H : (some t135) = some r := H
                  have A36 := Aside0.mk A360
                  clear A360
                  obtain rfl := Option.some.inj H
                  go_wp2_with (first | ((with_reducible refine gate_callee (f := 12) rfl ?_); refine goesL_ (some 41) rfl rfl Tryd.func12 (by kernel_rfl) rfl #[] rfl (by (try simp only [List.map_toArray, List.map_cons, List.map_nil]); first | done | rfl | (simp only [List.length_drop, List.length_take]; rfl)) ?_; (with_reducible refine (laws_redhatAwake.calls  true _ A29.out).mono ?_); rintro e w37 ⟨rfl, hb⟩; refine ⟨_, rfl, ?_⟩; have n0_ := Aside0.mk (below_step (by repeat (first | (with_reducible first | exact HB.out | apply below_alloc | apply pw_below_drewN | apply below_drew1) | exact HB.out)) hb); clear HB; have HB := n0_; clear n0_; (try clear hb); (try clear hb2); (try clear hk); (try clear hi)) | (go_at_call 13; (with_reducible refine (impl_RedHatParts.calls a0 a0 t131 _ A31.out).mono ?_); rintro e w38 ⟨rfl, hb⟩; have n0_ := Aside0.mk (below_step (by repeat (first | (with_reducible first | exact HB.out | apply below_alloc | apply pw_below_drewN | apply below_drew1) | exact HB.out)) hb); clear HB; have HB := n0_; clear n0_; (try clear hb); (try clear hb2); (try clear hk); (try clear hi)) | (go_at_call 13; (with_reducible refine (impl_RedHatParts.calls a0 a1 t132 _ A33.out).mono ?_); rintro e w39 ⟨rfl, hb⟩; have n0_ := Aside0.mk (below_step (by repeat (first | (with_reducible first | exact HB.out | apply below_alloc | apply pw_below_drewN | apply below_drew1) | exact HB.out)) hb); clear HB; have HB := n0_; clear n0_; (try clear hb); (try clear hb2); (try clear hk); (try clear hi)) | (go_at_call 13; (with_reducible refine (impl_RedHatParts.calls a1 a2 t133 _ A34.out).mono ?_); rintro e w40 ⟨rfl, hb⟩; have n0_ := Aside0.mk (below_step (by repeat (first | (with_reducible first | exact HB.out | apply below_alloc | apply pw_below_drewN | apply below_drew1) | exact HB.out)) hb); clear HB; have HB := n0_; clear n0_; (try clear hb); (try clear hb2); (try clear hk); (try clear hi)) | (go_at_call 13; (with_reducible refine (impl_RedHatParts.calls a0 a2 t134 _ A35.out).mono ?_); rintro e w41 ⟨rfl, hb⟩; have n0_ := Aside0.mk (below_step (by repeat (first | (with_reducible first | exact HB.out | apply below_alloc | apply pw_below_drewN | apply below_drew1) | exact HB.out)) hb); clear HB; have HB := n0_; clear n0_; (try clear hb); (try clear hb2); (try clear hk); (try clear hi)) | (go_at_call 14; (with_reducible refine (laws_chained.calls kj7 t132 t133 t134 t135 _ A36.out).mono ?_); rintro e w' ⟨rfl, ⟨nd, rfl⟩⟩))
                  go_ret
                  exact ⟨by first | rfl | (simp [errW_none, errW_some] <;> rfl) | (simp [*, errW_none, errW_some] <;> rfl) | (simp [bne_nil_]; done), by repeat (first | (with_reducible first | exact HB.out | apply below_alloc | apply pw_below_drewN | apply below_drew1) | exact HB.out)⟩
                · rw [if_neg c32] at H
                  have c32b0 : (t131 == 0) = false := beq_eq_false_iff_ne.mpr c32
                  have c32b1 : (t131 != 0) = true := bne_iff_ne.mpr c32
                  obtain rfl := Option.some.inj H
                  go_wp2_with (first | ((with_reducible refine gate_callee (f := 12) rfl ?_); refine goesL_ (some 41) rfl rfl Tryd.func12 (by kernel_rfl) rfl #[] rfl (by (try simp only [List.map_toArray, List.map_cons, List.map_nil]); first | done | rfl | (simp only [List.length_drop, List.length_take]; rfl)) ?_; (with_reducible refine (laws_redhatAwake.calls  true _ A29.out).mono ?_); rintro e w42 ⟨rfl, hb⟩; refine ⟨_, rfl, ?_⟩; have n0_ := Aside0.mk (below_step (by repeat (first | (with_reducible first | exact HB.out | apply below_alloc | apply pw_below_drewN | apply below_drew1) | exact HB.out)) hb); clear HB; have HB := n0_; clear n0_; (try clear hb); (try clear hb2); (try clear hk); (try clear hi)) | (go_at_call 13; (with_reducible refine (impl_RedHatParts.calls a0 a0 t131 _ A31.out).mono ?_); rintro e w43 ⟨rfl, hb⟩; have n0_ := Aside0.mk (below_step (by repeat (first | (with_reducible first | exact HB.out | apply below_alloc | apply pw_below_drewN | apply below_drew1) | exact HB.out)) hb); clear HB; have HB := n0_; clear n0_; (try clear hb); (try clear hb2); (try clear hk); (try clear hi)))
                  go_ret
                  exact ⟨by first | rfl | (simp [errW_none, errW_some] <;> rfl) | (simp [*, errW_none, errW_some] <;> rfl) | (simp [bne_nil_]; done), by repeat (first | (with_reducible first | exact HB.out | apply below_alloc | apply pw_below_drewN | apply below_drew1) | exact HB.out)⟩
              · replace c30 := Bool.eq_false_iff.mpr c30
                subst c30
                have H1 : (some false) = some r := by rw [if_neg (show ¬ (false = true) by decide)] at H; exact H
                clear H
                have H := H1
                clear H1
                obtain rfl := Option.some.inj H
                go_wp2_with (first | ((with_reducible refine gate_callee (f := 12) rfl ?_); refine goesL_ (some 41) rfl rfl Tryd.func12 (by kernel_rfl) rfl #[] rfl (by (try simp only [List.map_toArray, List.map_cons, List.map_nil]); first | done | rfl | (simp only [List.length_drop, List.length_take]; rfl)) ?_; (with_reducible refine (laws_redhatAwake.calls  false _ A29.out).mono ?_); rintro e w44 ⟨rfl, hb⟩; refine ⟨_, rfl, ?_⟩; have n0_ := Aside0.mk (below_step (by repeat (first | (with_reducible first | exact HB.out | apply below_alloc | apply pw_below_drewN | apply below_drew1) | exact HB.out)) hb); clear HB; have HB := n0_; clear n0_; (try clear hb); (try clear hb2); (try clear hk); (try clear hi)))
                go_ret
                exact ⟨by first | rfl | (simp [errW_none, errW_some] <;> rfl) | (simp [*, errW_none, errW_some] <;> rfl) | (simp [bne_nil_]; done), by repeat (first | (with_reducible first | exact HB.out | apply below_alloc | apply pw_below_drewN | apply below_drew1) | exact HB.out)⟩

/-- THE ONE PURE STATEMENT of laws_FnRedHatPartsOrder: yours. -/
def laws_FnRedHatPartsOrder.Pure : Prop := ∀ (a0 : ByteArray) (a1 : ByteArray) (a2 : ByteArray), a0.size ≤ 140737488351232 → a1.size ≤ 140737488351232 → a2.size ≤ 140737488351232 → ∃ k, laws_FnRedHatPartsOrder.f k a0 a1 a2 = some true
theorem laws_FnRedHatPartsOrder.walk (P : laws_FnRedHatPartsOrder.Pure) (a0 : ByteArray) (a1 : ByteArray) (a2 : ByteArray) (w : World) (w0 : a0.size ≤ 140737488351232) (w1 : a1.size ≤ 140737488351232) (w2 : a2.size ≤ 140737488351232) :
    Calls Tryd.prog 4 #[.string a0, .string a1, .string a2] w fun e w' => e = .returned (.bool true) ∧ Below w.heap.size w w' := by
  obtain ⟨k, h⟩ := P a0 a1 a2 w0 w1 w2
  refine (laws_FnRedHatPartsOrder.calls k a0 a1 a2 true w h).mono ?_
  rintro e w' ⟨rfl, hd⟩
  exact ⟨rfl, hd⟩

/-! ### laws_digits: function 15 -/
def laws_digits.l0 : Nat → ByteArray → Int → Option (Bool)
  | 0, _, _ => none
  | k + 1, x0, x3 => if x3 < (x0.size : Int) then (if 0 ≤ x3 then (if (bt x0 x3) < 48 then (some false) else (if (bt x0 x3) > 57 then (some false) else (laws_digits.l0 k x0 (wrap64 (x3 + 1))))) else (none)) else (some (x0.toList != ([] : List UInt8)))
def laws_digits.f (k : Nat) (a0 : ByteArray) : Option (Bool) := laws_digits.l0 k a0 0
theorem laws_digits.mono_l : ∀ k, (∀ y0 y1, LeO (laws_digits.l0 k y0 y1) (laws_digits.l0 (k + 1) y0 y1))
  | 0 => fun _ _ r h => by simp [laws_digits.l0] at h
  | k + 1 => by
    have ih0 := laws_digits.mono_l k
    · intro y0 y1
      unfold laws_digits.l0
      repeat' first
      | (with_reducible exact ih0 _ _)
      | (with_reducible exact LeO.refl _)
      | (with_reducible exact LeO.none _)
      | (with_reducible refine LeO.ite ?_ ?_)
      | (with_reducible refine LeO.bind ?_ (fun _ => ?_))
      | exact ih0 _ _
      | exact LeO.none _
      | refine LeO.ite ?_ ?_
      | refine LeO.bind ?_ (fun _ => ?_)
theorem laws_digits.mono : ∀ a0 k, LeO (laws_digits.f k a0) (laws_digits.f (k + 1) a0) := by
  intro a0 k
  have ih0 := laws_digits.mono_l k
  unfold laws_digits.f
  repeat' first
      | (with_reducible exact ih0 _ _)
      | (with_reducible exact LeO.refl _)
      | (with_reducible exact LeO.none _)
      | (with_reducible refine LeO.ite ?_ ?_)
      | (with_reducible refine LeO.bind ?_ (fun _ => ?_))
      | exact ih0 _ _
      | exact LeO.none _
      | refine LeO.ite ?_ ?_
      | refine LeO.bind ?_ (fun _ => ?_)
set_option maxHeartbeats 8000000 in
set_option maxRecDepth 100000 in
theorem laws_digits.calls (k : Nat) (a0 : ByteArray) (r : Bool) (w : World) (h : laws_digits.f k a0 = some r) :
    Calls Tryd.prog 15 #[.string a0] w fun e w' => e = .returned (.bool r) ∧ Drawn0 w w' := by
  have H : (laws_digits.l0 k a0 0) = some r := h
  clear h
  have H' := Aside0.mk H
  clear H
  go_enter Tryd.func15, Tryd.ntmps15
  go_wp2
  go_loopg [3] k (fun kq v3 w' => ∃ (x3_1 : Int), v3 = .int .i64 x3_1 ∧ Aside0 (laws_digits.l0 kq a0 x3_1 = some r) ∧ Aside0 (kq ≤ k) ∧ Drawn0 w w')
  case atStart => exact ⟨(0), (by first | rfl | (simp; done) | (simp [*]; done) | (simp [bne_nil_]; done)), H', ⟨Nat.le_refl _⟩, by repeat (first | exact Drawn0.refl _ | apply Drawn0.step)⟩
  case round =>
    clear H'
    try clear c1
    obtain ⟨x3_1, rfl, HA, HK1, ⟨m1, rfl⟩⟩ := hrel
    cases gk with
    | zero => exact absurd HA.out (by simp [laws_digits.l0])
    | succ k1 =>
      have H := HA.out
      clear HA
      simp only [laws_digits.l0] at H
      by_cases c2 : x3_1 < (a0.size : Int)
      · rw [if_pos c2] at H
        have c2b0 : decide (x3_1 < (a0.size : Int)) = true := decide_eq_true c2
        clear c2
        by_cases c3 : 0 ≤ x3_1
        · rw [if_pos c3] at H
          have c3b0 : decide (0 ≤ x3_1) = true := decide_eq_true c3
          clear c3
          by_cases c5 : (bt a0 x3_1) < 48
          · rw [if_pos c5] at H
            have c5b0 : decide ((bt a0 x3_1) < 48) = true := decide_eq_true c5
            clear c5
            obtain rfl := Option.some.inj H
            have p4 : 0 ≤ (x3_1 : Int) := of_decide_eq_true (by first | (with_reducible assumption) | assumption)
            have q4 : x3_1 < (a0.size : Int) := of_decide_eq_true (by first | (with_reducible assumption) | assumption)
            have hx4 := bt_at a0 x3_1
            replace p4 := eq_true p4
            replace q4 := eq_true q4
            go_wp2
            go_ret
            exact ⟨by first | rfl | (simp; done) | (simp [*]; done) | (simp [bne_nil_]; done), by repeat (first | exact Drawn0.refl _ | apply Drawn0.step)⟩
          · rw [if_neg c5] at H
            have c5b0 : decide ((bt a0 x3_1) < 48) = false := decide_eq_false c5
            clear c5
            by_cases c7 : (bt a0 x3_1) > 57
            · rw [if_pos c7] at H
              have c7b0 : decide (57 < (bt a0 x3_1)) = true := decide_eq_true c7
              clear c7
              obtain rfl := Option.some.inj H
              have p4 : 0 ≤ (x3_1 : Int) := of_decide_eq_true (by first | (with_reducible assumption) | assumption)
              have q4 : x3_1 < (a0.size : Int) := of_decide_eq_true (by first | (with_reducible assumption) | assumption)
              have hx4 := bt_at a0 x3_1
              replace p4 := eq_true p4
              replace q4 := eq_true q4
              have p6 : 0 ≤ (x3_1 : Int) := of_decide_eq_true (by first | (with_reducible assumption) | assumption)
              have q6 : x3_1 < (a0.size : Int) := of_decide_eq_true (by first | (with_reducible assumption) | assumption)
              have hx6 := bt_at a0 x3_1
              replace p6 := eq_true p6
              replace q6 := eq_true q6
              go_wp2
              go_ret
              exact ⟨by first | rfl | (simp; done) | (simp [*]; done) | (simp [bne_nil_]; done), by repeat (first | exact Drawn0.refl _ | apply Drawn0.step)⟩
            · rw [if_neg c7] at H
              have c7b0 : decide (57 < (bt a0 x3_1)) = false := decide_eq_false c7
              clear c7
              have H' := Aside0.mk H
              clear H
              have p4 : 0 ≤ (x3_1 : Int) := of_decide_eq_true (by first | (with_reducible assumption) | assumption)
              have q4 : x3_1 < (a0.size : Int) := of_decide_eq_true (by first | (with_reducible assumption) | assumption)
              have hx4 := bt_at a0 x3_1
              replace p4 := eq_true p4
              replace q4 := eq_true q4
              have p6 : 0 ≤ (x3_1 : Int) := of_decide_eq_true (by first | (with_reducible assumption) | assumption)
              have q6 : x3_1 < (a0.size : Int) := of_decide_eq_true (by first | (with_reducible assumption) | assumption)
              have hx6 := bt_at a0 x3_1
              replace p6 := eq_true p6
              replace q6 := eq_true q6
              go_wp2
              go_roundg k1
              case measure => have := HK1.out; omega
              case rel => exact ⟨(wrap64 (x3_1 + 1)), (by first | rfl | (simp; done) | (simp [*]; done) | (simp [bne_nil_]; done)), H', ⟨by have := HK1.out; omega⟩, by repeat (first | exact Drawn0.refl _ | apply Drawn0.step)⟩
        · rw [if_neg c3] at H
          exact absurd H (by simp)
      · rw [if_neg c2] at H
        have c2b0 : decide (x3_1 < (a0.size : Int)) = false := decide_eq_false c2
        clear c2
        obtain rfl := Option.some.inj H
        go_wp2
        go_ret
        exact ⟨by first | rfl | (simp; done) | (simp [*]; done) | (simp [bne_nil_]; done), by repeat (first | exact Drawn0.refl _ | apply Drawn0.step)⟩

/-! ### semantic_ZZRedHatTold: function 23 -/
def semantic_ZZRedHatTold.f (a0_0 : ByteArray) (a0_1 : ByteArray) (a0_2 : ByteArray) : Option (ByteArray × ByteArray × ByteArray) := some (a0_0, a0_1, a0_2)
set_option maxHeartbeats 8000000 in
set_option maxRecDepth 100000 in
theorem semantic_ZZRedHatTold.calls (a0_0 : ByteArray) (a0_1 : ByteArray) (a0_2 : ByteArray) (r1 : ByteArray) (r2 : ByteArray) (r3 : ByteArray) (w : World) (h : semantic_ZZRedHatTold.f a0_0 a0_1 a0_2 = some (r1, r2, r3)) :
    Calls Tryd.prog 23 #[.agg #[.string a0_0, .string a0_1, .string a0_2]] w fun e w' => e = .returned (.tuple #[.string r1, .string r2, .string r3]) ∧ Below w.heap.size w w' := by
  have hu42 := Tryd.underlying42
  have HB := Aside0.mk (Below.refl w.heap.size w)
  have H : (some (a0_0, a0_1, a0_2)) = some (r1, r2, r3) := h
  clear h
  simp only [Option.some.injEq, Prod.mk.injEq] at H
  obtain ⟨rfl, rfl, rfl⟩ := H
  go_enter Tryd.func23, Tryd.ntmps23
  go_wp2_with (first | ((with_reducible refine gate_dst (N := 1) rfl ?_); refine box_event ?hg (N := 1) ?hd (cs := #[.string a0_0, .string a0_1, .string a0_2]) (t := 42) ?hr ?_; (case hd => rfl); (case hg => rfl); (case hr => first | (go_simp; done) | (go_simp; rfl)); intro gb136 hg w2 hbox hb; have n0_ := Aside0.mk (below_step (by repeat (first | (with_reducible first | exact HB.out | apply below_alloc | apply pw_below_drewN | apply below_drew1) | exact HB.out)) hb); have n1_ := Aside0.mk (hbox); have n2_ := Aside0.mk ((by rw [hg]; exact (below_size (by repeat (first | (with_reducible first | exact HB.out | apply below_alloc | apply pw_below_drewN | apply below_drew1) | exact HB.out))) : w.heap.size ≤ gb136)); have n3_ := Aside0.mk ((by rw [hg]; exact (below_size (by repeat (first | (with_reducible first | exact HB.out | apply below_alloc | apply pw_below_drewN | apply below_drew1) | exact HB.out))) : w.heap.size ≤ gb136)); clear HB; have HB := n0_; have BK136 := n1_; have GW136 := n2_; have GE136 := n3_; clear n0_ n1_ n2_ n3_; clear hb hbox hg; have hcz3_0 : w2.cell? ⟨gb136, 0, none⟩ = some (.string a0_0) := (blk_cell BK136.out 0).trans rfl; have hcz3_1 : w2.cell? ⟨gb136, 1, none⟩ = some (.string a0_1) := (blk_cell BK136.out 1).trans rfl; have hcz3_2 : w2.cell? ⟨gb136, 2, none⟩ = some (.string a0_2) := (blk_cell BK136.out 2).trans rfl; have hfz3_0 := blk_frozen BK136.out 0; have hfz3_1 := blk_frozen BK136.out 1; have hfz3_2 := blk_frozen BK136.out 2))
  repeat (go_quiet (first | ((with_reducible refine gate_dst (N := 1) rfl ?_); refine box_event ?hg (N := 1) ?hd (cs := #[.string a0_0, .string a0_1, .string a0_2]) (t := 42) ?hr ?_; (case hd => rfl); (case hg => rfl); (case hr => first | (go_simp; done) | (go_simp; rfl)); intro gb136 hg w2 hbox hb; have n0_ := Aside0.mk (below_step (by repeat (first | (with_reducible first | exact HB.out | apply below_alloc | apply pw_below_drewN | apply below_drew1) | exact HB.out)) hb); have n1_ := Aside0.mk (hbox); have n2_ := Aside0.mk ((by rw [hg]; exact (below_size (by repeat (first | (with_reducible first | exact HB.out | apply below_alloc | apply pw_below_drewN | apply below_drew1) | exact HB.out))) : w.heap.size ≤ gb136)); have n3_ := Aside0.mk ((by rw [hg]; exact (below_size (by repeat (first | (with_reducible first | exact HB.out | apply below_alloc | apply pw_below_drewN | apply below_drew1) | exact HB.out))) : w.heap.size ≤ gb136)); clear HB; have HB := n0_; have BK136 := n1_; have GW136 := n2_; have GE136 := n3_; clear n0_ n1_ n2_ n3_; clear hb hbox hg; have hcz3_0 : w2.cell? ⟨gb136, 0, none⟩ = some (.string a0_0) := (blk_cell BK136.out 0).trans rfl; have hcz3_1 : w2.cell? ⟨gb136, 1, none⟩ = some (.string a0_1) := (blk_cell BK136.out 1).trans rfl; have hcz3_2 : w2.cell? ⟨gb136, 2, none⟩ = some (.string a0_2) := (blk_cell BK136.out 2).trans rfl; have hfz3_0 := blk_frozen BK136.out 0; have hfz3_1 := blk_frozen BK136.out 1; have hfz3_2 := blk_frozen BK136.out 2)); try go_wp2_with (first | ((with_reducible refine gate_dst (N := 1) rfl ?_); refine box_event ?hg (N := 1) ?hd (cs := #[.string a0_0, .string a0_1, .string a0_2]) (t := 42) ?hr ?_; (case hd => rfl); (case hg => rfl); (case hr => first | (go_simp; done) | (go_simp; rfl)); intro gb136 hg w2 hbox hb; have n0_ := Aside0.mk (below_step (by repeat (first | (with_reducible first | exact HB.out | apply below_alloc | apply pw_below_drewN | apply below_drew1) | exact HB.out)) hb); have n1_ := Aside0.mk (hbox); have n2_ := Aside0.mk ((by rw [hg]; exact (below_size (by repeat (first | (with_reducible first | exact HB.out | apply below_alloc | apply pw_below_drewN | apply below_drew1) | exact HB.out))) : w.heap.size ≤ gb136)); have n3_ := Aside0.mk ((by rw [hg]; exact (below_size (by repeat (first | (with_reducible first | exact HB.out | apply below_alloc | apply pw_below_drewN | apply below_drew1) | exact HB.out))) : w.heap.size ≤ gb136)); clear HB; have HB := n0_; have BK136 := n1_; have GW136 := n2_; have GE136 := n3_; clear n0_ n1_ n2_ n3_; clear hb hbox hg; have hcz3_0 : w2.cell? ⟨gb136, 0, none⟩ = some (.string a0_0) := (blk_cell BK136.out 0).trans rfl; have hcz3_1 : w2.cell? ⟨gb136, 1, none⟩ = some (.string a0_1) := (blk_cell BK136.out 1).trans rfl; have hcz3_2 : w2.cell? ⟨gb136, 2, none⟩ = some (.string a0_2) := (blk_cell BK136.out 2).trans rfl; have hfz3_0 := blk_frozen BK136.out 0; have hfz3_1 := blk_frozen BK136.out 1; have hfz3_2 := blk_frozen BK136.out 2)))
  go_ret3
  exact ⟨by first | rfl | (simp [errW_none, errW_some] <;> rfl) | (simp [*, errW_none, errW_some] <;> rfl) | (simp [bne_nil_]; done), by repeat (first | (with_reducible first | exact HB.out | apply below_alloc | apply pw_below_drewN | apply below_drew1 | refine below_set ?_ GE136.out) | exact HB.out)⟩

end Go.Proofs.YtojabknjniihmabDoor.QE
