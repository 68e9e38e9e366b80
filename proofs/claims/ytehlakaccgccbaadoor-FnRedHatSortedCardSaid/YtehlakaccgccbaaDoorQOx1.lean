-- Written by a working copy of the kit's print program, turned at a few places by wip/tool/mkprint.py. Lean checks it.
import Derived.Test.YtehlakaccgccbaaDoorQOx0
import Derived.Test.YtehlakaccgccbaaDoorWTab
namespace Go.Proofs.YtehlakaccgccbaaDoor.QO
open Go.RowKit Go.Proofs.YtehlakaccgccbaaDoorW.PrintWords Go.Proofs.YtehlakaccgccbaaDoorW.PrintLast Go.Proofs.YtehlakaccgccbaaDoorW.PrintMore
attribute [local go_sem] max2_int min2_int max_two min_two max_three min_three max_four min_four   -- for this text's walks alone
set_option linter.unusedVariables false
set_option linter.unusedSimpArgs false

/-! ### laws_zzFits1: function 4 -/
def laws_zzFits1.l0 : Nat → List ByteArray → Int → Int → Option (Bool)
  | 0, _, _, _ => none
  | k + 1, x8, x9, x10 => if x10 < x9 then (if 0 ≤ x10 then (if x10 < (x8.length : Int) then (if ((rdOf ByteArray.empty x8 x10).size : Int) > 2147483647 then (some false) else (laws_zzFits1.l0 k x8 x9 (wrap64 (x10 + 1)))) else (none)) else (none)) else (some true)
def laws_zzFits1.f (k : Nat) (l0 : List ByteArray) : Option (Bool) := if (l0.length : Int) > 2147483647 then (some false) else (laws_zzFits1.l0 k l0 (l0.length : Int) 0)
theorem laws_zzFits1.mono_l : ∀ k, (∀ y0 y1 y2, LeO (laws_zzFits1.l0 k y0 y1 y2) (laws_zzFits1.l0 (k + 1) y0 y1 y2))
  | 0 => fun _ _ _ r h => by simp [laws_zzFits1.l0] at h
  | k + 1 => by
    have ih0 := laws_zzFits1.mono_l k
    · intro y0 y1 y2
      unfold laws_zzFits1.l0
      repeat' first
      | (with_reducible exact ih0 _ _ _)
      | (with_reducible exact LeO.refl _)
      | (with_reducible exact LeO.none _)
      | (with_reducible refine LeO.ite ?_ ?_)
      | (with_reducible refine LeO.bind ?_ (fun _ => ?_))
      | exact ih0 _ _ _
      | exact LeO.none _
      | refine LeO.ite ?_ ?_
      | refine LeO.bind ?_ (fun _ => ?_)
theorem laws_zzFits1.mono : ∀ a0 k, LeO (laws_zzFits1.f k a0) (laws_zzFits1.f (k + 1) a0) := by
  intro a0 k
  have ih0 := laws_zzFits1.mono_l k
  unfold laws_zzFits1.f
  repeat' first
      | (with_reducible exact ih0 _ _ _)
      | (with_reducible exact LeO.refl _)
      | (with_reducible exact LeO.none _)
      | (with_reducible refine LeO.ite ?_ ?_)
      | (with_reducible refine LeO.bind ?_ (fun _ => ?_))
      | exact ih0 _ _ _
      | exact LeO.none _
      | refine LeO.ite ?_ ?_
      | refine LeO.bind ?_ (fun _ => ?_)
set_option maxHeartbeats 8000000 in
set_option maxRecDepth 100000 in
theorem laws_zzFits1.calls (k : Nat) (A0 : Option Addr) (c0 : Nat) (l0 : List ByteArray) (r : Bool) (w : World) (hr0 : Kd.C Kd.string w A0 l0.length l0) (hc0 : l0.length ≤ c0) (h : laws_zzFits1.f k l0 = some r) :
    Calls Tryd.prog 4 #[.slice A0 l0.length c0] w fun e w' => e = .returned (.bool r) ∧ Drawn0 w w' := by
  have HR0 := Aside0.mk hr0
  have HC0 := Aside0.mk hc0
  clear hr0 hc0
  have H : (if (l0.length : Int) > 2147483647 then (some false) else (laws_zzFits1.l0 k l0 (l0.length : Int) 0)) = some r := h
  clear h
  by_cases c2 : (l0.length : Int) > 2147483647
  · rw [if_pos c2] at H
    have c2b0 : decide (2147483647 < (l0.length : Int)) = true := decide_eq_true c2
    have c2b1 : decide (2147483647 < l0.length) = true := decide_eq_true (by omega)
    clear c2
    obtain rfl := Option.some.inj H
    go_enter Tryd.func4, Tryd.ntmps4
    go_wp2
    go_ret
    exact ⟨by first | rfl | (simp; done) | (simp [*]; done) | (simp [bne_nil_]; done), by repeat (first | exact Drawn0.refl _ | apply Drawn0.step)⟩
  · rw [if_neg c2] at H
    have c2b0 : decide (2147483647 < (l0.length : Int)) = false := decide_eq_false c2
    have c2b1 : decide (2147483647 < l0.length) = false := decide_eq_false (by omega)
    clear c2
    have H' := Aside0.mk H
    clear H
    go_enter Tryd.func4, Tryd.ntmps4
    go_wp2
    go_loopg [10] k (fun kq v10 w' => ∃ (x10_1 : Int), v10 = .int .i64 x10_1 ∧ Aside0 (laws_zzFits1.l0 kq l0 (l0.length : Int) x10_1 = some r) ∧ Aside0 (kq ≤ k) ∧ Drawn0 w w')
    case atStart => exact ⟨(0), (by first | rfl | (simp; done) | (simp [*]; done) | (simp [bne_nil_]; done)), H', ⟨Nat.le_refl _⟩, by repeat (first | exact Drawn0.refl _ | apply Drawn0.step)⟩
    case round =>
      clear H'
      try clear c2
      try clear c2b0
      try clear c2b1
      try clear p2
      obtain ⟨x10_1, rfl, HA, HK1, ⟨m1, rfl⟩⟩ := hrel
      cases gk with
      | zero => exact absurd HA.out (by simp [laws_zzFits1.l0])
      | succ k1 =>
        have H := HA.out
        clear HA
        simp only [laws_zzFits1.l0] at H
        by_cases c3 : x10_1 < (l0.length : Int)
        · rw [if_pos c3] at H
          have c3b0 : decide (x10_1 < (l0.length : Int)) = true := decide_eq_true c3
          clear c3
          by_cases c4 : 0 ≤ x10_1
          · rw [if_pos c4] at H
            have c4b0 : decide (0 ≤ x10_1) = true := decide_eq_true c4
            clear c4
            by_cases c5 : x10_1 < (l0.length : Int)
            · rw [if_pos c5] at H
              have c5b0 : decide (x10_1 < (l0.length : Int)) = true := decide_eq_true c5
              clear c5
              by_cases c6 : ((rdOf ByteArray.empty l0 x10_1).size : Int) > 2147483647
              · rw [if_pos c6] at H
                have c6b0 : decide (2147483647 < ((rdOf ByteArray.empty l0 x10_1).size : Int)) = true := decide_eq_true c6
                have c6b1 : decide (2147483647 < (rdOf ByteArray.empty l0 x10_1).size) = true := decide_eq_true (by omega)
                clear c6
                obtain rfl := Option.some.inj H
                have p101 : 0 ≤ (x10_1 : Int) := of_decide_eq_true (by first | (with_reducible assumption) | assumption)
                have q101 : x10_1 < (l0.length : Int) := of_decide_eq_true (by first | (with_reducible assumption) | assumption)
                obtain ⟨ad101, e101, hx101_0⟩ := Kd.at_string HR0.out x10_1 p101 q101
                cases e101
                replace p101 := eq_true p101
                replace q101 := eq_true q101
                go_wp2
                go_ret
                exact ⟨by first | rfl | (simp; done) | (simp [*]; done) | (simp [bne_nil_]; done), by repeat (first | exact Drawn0.refl _ | apply Drawn0.step)⟩
              · rw [if_neg c6] at H
                have c6b0 : decide (2147483647 < ((rdOf ByteArray.empty l0 x10_1).size : Int)) = false := decide_eq_false c6
                have c6b1 : decide (2147483647 < (rdOf ByteArray.empty l0 x10_1).size) = false := decide_eq_false (by omega)
                clear c6
                have H' := Aside0.mk H
                clear H
                have p101 : 0 ≤ (x10_1 : Int) := of_decide_eq_true (by first | (with_reducible assumption) | assumption)
                have q101 : x10_1 < (l0.length : Int) := of_decide_eq_true (by first | (with_reducible assumption) | assumption)
                obtain ⟨ad101, e101, hx101_0⟩ := Kd.at_string HR0.out x10_1 p101 q101
                cases e101
                replace p101 := eq_true p101
                replace q101 := eq_true q101
                go_wp2
                go_roundg k1
                case measure => have := HK1.out; omega
                case rel => exact ⟨(wrap64 (x10_1 + 1)), (by first | rfl | (simp; done) | (simp [*]; done) | (simp [bne_nil_]; done)), H', ⟨by have := HK1.out; omega⟩, by repeat (first | exact Drawn0.refl _ | apply Drawn0.step)⟩
            · rw [if_neg c5] at H
              exact absurd H (by simp)
          · rw [if_neg c4] at H
            exact absurd H (by simp)
        · rw [if_neg c3] at H
          have c3b0 : decide (x10_1 < (l0.length : Int)) = false := decide_eq_false c3
          clear c3
          obtain rfl := Option.some.inj H
          go_wp2
          go_ret
          exact ⟨by first | rfl | (simp; done) | (simp [*]; done) | (simp [bne_nil_]; done), by repeat (first | exact Drawn0.refl _ | apply Drawn0.step)⟩

/-! ### laws_short: function 5 -/
def laws_short.l0 : Nat → List ByteArray → List ByteArray → Int → Int → Option (Bool)
  | 0, _, _, _, _ => none
  | k + 1, x0, x5, x6, x7 => if x7 < x6 then (if 0 ≤ x7 then (if x7 < (x5.length : Int) then (if ((rdOf ByteArray.empty x5 x7).size : Int) > 1500 then (some false) else (laws_short.l0 k x0 x5 x6 (wrap64 (x7 + 1)))) else (none)) else (none)) else (some (decide ((x0.length : Int) ≤ 150)))
def laws_short.f (k : Nat) (l0 : List ByteArray) : Option (Bool) := laws_short.l0 k l0 l0 (l0.length : Int) 0
theorem laws_short.mono_l : ∀ k, (∀ y0 y1 y2 y3, LeO (laws_short.l0 k y0 y1 y2 y3) (laws_short.l0 (k + 1) y0 y1 y2 y3))
  | 0 => fun _ _ _ _ r h => by simp [laws_short.l0] at h
  | k + 1 => by
    have ih0 := laws_short.mono_l k
    · intro y0 y1 y2 y3
      unfold laws_short.l0
      repeat' first
      | (with_reducible exact ih0 _ _ _ _)
      | (with_reducible exact LeO.refl _)
      | (with_reducible exact LeO.none _)
      | (with_reducible refine LeO.ite ?_ ?_)
      | (with_reducible refine LeO.bind ?_ (fun _ => ?_))
      | exact ih0 _ _ _ _
      | exact LeO.none _
      | refine LeO.ite ?_ ?_
      | refine LeO.bind ?_ (fun _ => ?_)
theorem laws_short.mono : ∀ a0 k, LeO (laws_short.f k a0) (laws_short.f (k + 1) a0) := by
  intro a0 k
  have ih0 := laws_short.mono_l k
  unfold laws_short.f
  repeat' first
      | (with_reducible exact ih0 _ _ _ _)
      | (with_reducible exact LeO.refl _)
      | (with_reducible exact LeO.none _)
      | (with_reducible refine LeO.ite ?_ ?_)
      | (with_reducible refine LeO.bind ?_ (fun _ => ?_))
      | exact ih0 _ _ _ _
      | exact LeO.none _
      | refine LeO.ite ?_ ?_
      | refine LeO.bind ?_ (fun _ => ?_)
set_option maxHeartbeats 8000000 in
set_option maxRecDepth 100000 in
theorem laws_short.calls (k : Nat) (A0 : Option Addr) (c0 : Nat) (l0 : List ByteArray) (r : Bool) (w : World) (hr0 : Kd.C Kd.string w A0 l0.length l0) (hc0 : l0.length ≤ c0) (h : laws_short.f k l0 = some r) :
    Calls Tryd.prog 5 #[.slice A0 l0.length c0] w fun e w' => e = .returned (.bool r) ∧ Drawn0 w w' := by
  have HR0 := Aside0.mk hr0
  have HC0 := Aside0.mk hc0
  clear hr0 hc0
  have H : (laws_short.l0 k l0 l0 (l0.length : Int) 0) = some r := h
  clear h
  have H' := Aside0.mk H
  clear H
  go_enter Tryd.func5, Tryd.ntmps5
  go_wp2
  go_loopg [7] k (fun kq v7 w' => ∃ (x7_1 : Int), v7 = .int .i64 x7_1 ∧ Aside0 (laws_short.l0 kq l0 l0 (l0.length : Int) x7_1 = some r) ∧ Aside0 (kq ≤ k) ∧ Drawn0 w w')
  case atStart => exact ⟨(0), (by first | rfl | (simp; done) | (simp [*]; done) | (simp [bne_nil_]; done)), H', ⟨Nat.le_refl _⟩, by repeat (first | exact Drawn0.refl _ | apply Drawn0.step)⟩
  case round =>
    clear H'
    obtain ⟨x7_1, rfl, HA, HK1, ⟨m1, rfl⟩⟩ := hrel
    cases gk with
    | zero => exact absurd HA.out (by simp [laws_short.l0])
    | succ k1 =>
      have H := HA.out
      clear HA
      simp only [laws_short.l0] at H
      by_cases c2 : x7_1 < (l0.length : Int)
      · rw [if_pos c2] at H
        have c2b0 : decide (x7_1 < (l0.length : Int)) = true := decide_eq_true c2
        clear c2
        by_cases c3 : 0 ≤ x7_1
        · rw [if_pos c3] at H
          have c3b0 : decide (0 ≤ x7_1) = true := decide_eq_true c3
          clear c3
          by_cases c4 : x7_1 < (l0.length : Int)
          · rw [if_pos c4] at H
            have c4b0 : decide (x7_1 < (l0.length : Int)) = true := decide_eq_true c4
            clear c4
            by_cases c5 : ((rdOf ByteArray.empty l0 x7_1).size : Int) > 1500
            · rw [if_pos c5] at H
              have c5b0 : decide (1500 < ((rdOf ByteArray.empty l0 x7_1).size : Int)) = true := decide_eq_true c5
              have c5b1 : decide (1500 < (rdOf ByteArray.empty l0 x7_1).size) = true := decide_eq_true (by omega)
              clear c5
              obtain rfl := Option.some.inj H
              have p102 : 0 ≤ (x7_1 : Int) := of_decide_eq_true (by first | (with_reducible assumption) | assumption)
              have q102 : x7_1 < (l0.length : Int) := of_decide_eq_true (by first | (with_reducible assumption) | assumption)
              obtain ⟨ad102, e102, hx102_0⟩ := Kd.at_string HR0.out x7_1 p102 q102
              cases e102
              replace p102 := eq_true p102
              replace q102 := eq_true q102
              go_wp2
              go_ret
              exact ⟨by first | rfl | (simp; done) | (simp [*]; done) | (simp [bne_nil_]; done), by repeat (first | exact Drawn0.refl _ | apply Drawn0.step)⟩
            · rw [if_neg c5] at H
              have c5b0 : decide (1500 < ((rdOf ByteArray.empty l0 x7_1).size : Int)) = false := decide_eq_false c5
              have c5b1 : decide (1500 < (rdOf ByteArray.empty l0 x7_1).size) = false := decide_eq_false (by omega)
              clear c5
              have H' := Aside0.mk H
              clear H
              have p102 : 0 ≤ (x7_1 : Int) := of_decide_eq_true (by first | (with_reducible assumption) | assumption)
              have q102 : x7_1 < (l0.length : Int) := of_decide_eq_true (by first | (with_reducible assumption) | assumption)
              obtain ⟨ad102, e102, hx102_0⟩ := Kd.at_string HR0.out x7_1 p102 q102
              cases e102
              replace p102 := eq_true p102
              replace q102 := eq_true q102
              go_wp2
              go_roundg k1
              case measure => have := HK1.out; omega
              case rel => exact ⟨(wrap64 (x7_1 + 1)), (by first | rfl | (simp; done) | (simp [*]; done) | (simp [bne_nil_]; done)), H', ⟨by have := HK1.out; omega⟩, by repeat (first | exact Drawn0.refl _ | apply Drawn0.step)⟩
          · rw [if_neg c4] at H
            exact absurd H (by simp)
        · rw [if_neg c3] at H
          exact absurd H (by simp)
      · rw [if_neg c2] at H
        have c2b0 : decide (x7_1 < (l0.length : Int)) = false := decide_eq_false c2
        clear c2
        obtain rfl := Option.some.inj H
        go_wp2
        go_ret
        exact ⟨by first | rfl | (simp; done) | (simp [*]; done) | (simp [bne_nil_]; done), by repeat (first | exact Drawn0.refl _ | apply Drawn0.step)⟩

/-! ### laws_plain: function 6 -/
mutual
def laws_plain.l0 : Nat → ByteArray → ByteArray → Int → Option (Bool)
  | 0, _, _, _ => none
  | k + 1, x0, x1, x5 => if x5 < (x0.size : Int) then (if 0 ≤ x5 then (if (bt x0 x5) ≥ 48 then (if (bt x0 x5) ≤ 57 then (laws_plain.j1 k x0 x1 x5 (bt x0 x5) true) else (if (bt x0 x5) ≥ 97 then (if (bt x0 x5) ≤ 122 then (laws_plain.j1 k x0 x1 x5 (bt x0 x5) true) else (if (bt x0 x5) ≥ 65 then (laws_plain.j1 k x0 x1 x5 (bt x0 x5) (decide ((bt x0 x5) ≤ 90))) else (laws_plain.j1 k x0 x1 x5 (bt x0 x5) false))) else (if (bt x0 x5) ≥ 65 then (laws_plain.j1 k x0 x1 x5 (bt x0 x5) (decide ((bt x0 x5) ≤ 90))) else (laws_plain.j1 k x0 x1 x5 (bt x0 x5) false)))) else (if (bt x0 x5) ≥ 97 then (if (bt x0 x5) ≤ 122 then (laws_plain.j1 k x0 x1 x5 (bt x0 x5) true) else (if (bt x0 x5) ≥ 65 then (laws_plain.j1 k x0 x1 x5 (bt x0 x5) (decide ((bt x0 x5) ≤ 90))) else (laws_plain.j1 k x0 x1 x5 (bt x0 x5) false))) else (if (bt x0 x5) ≥ 65 then (laws_plain.j1 k x0 x1 x5 (bt x0 x5) (decide ((bt x0 x5) ≤ 90))) else (laws_plain.j1 k x0 x1 x5 (bt x0 x5) false)))) else (none)) else (some (x0.toList != ([] : List UInt8)))
def laws_plain.j1 : Nat → ByteArray → ByteArray → Int → Int → Bool → Option (Bool)
  | 0, _, _, _, _, _ => none
  | k + 1, x0, x1, x5, x6, x7 => laws_plain.l1 k x0 x1 x5 x6 x7 0
def laws_plain.l1 : Nat → ByteArray → ByteArray → Int → Int → Bool → Int → Option (Bool)
  | 0, _, _, _, _, _, _ => none
  | k + 1, x0, x1, x5, x6, x7, x8 => if x8 < (x1.size : Int) then (if x7 = true then (laws_plain.l1 k x0 x1 x5 x6 true (wrap64 (x8 + 1))) else (if 0 ≤ x8 then (laws_plain.l1 k x0 x1 x5 x6 (x6 == (bt x1 x8)) (wrap64 (x8 + 1))) else (none))) else (if x7 = true then (laws_plain.l0 k x0 x1 (wrap64 (x5 + 1))) else (some false))
end
def laws_plain.f (k : Nat) (a0 : ByteArray) (a1 : ByteArray) : Option (Bool) := laws_plain.l0 k a0 a1 0
theorem laws_plain.mono_l : ∀ k, (∀ y0 y1 y2, LeO (laws_plain.l0 k y0 y1 y2) (laws_plain.l0 (k + 1) y0 y1 y2)) ∧ (∀ y0 y1 y2 y3 y4, LeO (laws_plain.j1 k y0 y1 y2 y3 y4) (laws_plain.j1 (k + 1) y0 y1 y2 y3 y4)) ∧ (∀ y0 y1 y2 y3 y4 y5, LeO (laws_plain.l1 k y0 y1 y2 y3 y4 y5) (laws_plain.l1 (k + 1) y0 y1 y2 y3 y4 y5))
  | 0 => ⟨fun _ _ _ r h => by simp [laws_plain.l0] at h, fun _ _ _ _ _ r h => by simp [laws_plain.j1] at h, fun _ _ _ _ _ _ r h => by simp [laws_plain.l1] at h⟩
  | k + 1 => by
    obtain ⟨ih0, ih1, ih2⟩ := laws_plain.mono_l k
    refine ⟨?_, ?_, ?_⟩
    · intro y0 y1 y2
      unfold laws_plain.l0
      repeat' first
      | (with_reducible exact ih0 _ _ _)
      | (with_reducible exact ih1 _ _ _ _ _)
      | (with_reducible exact ih2 _ _ _ _ _ _)
      | (with_reducible exact LeO.refl _)
      | (with_reducible exact LeO.none _)
      | (with_reducible refine LeO.ite ?_ ?_)
      | (with_reducible refine LeO.bind ?_ (fun _ => ?_))
      | exact ih0 _ _ _
      | exact ih1 _ _ _ _ _
      | exact ih2 _ _ _ _ _ _
      | exact LeO.none _
      | refine LeO.ite ?_ ?_
      | refine LeO.bind ?_ (fun _ => ?_)
    · intro y0 y1 y2 y3 y4
      unfold laws_plain.j1
      repeat' first
      | (with_reducible exact ih0 _ _ _)
      | (with_reducible exact ih1 _ _ _ _ _)
      | (with_reducible exact ih2 _ _ _ _ _ _)
      | (with_reducible exact LeO.refl _)
      | (with_reducible exact LeO.none _)
      | (with_reducible refine LeO.ite ?_ ?_)
      | (with_reducible refine LeO.bind ?_ (fun _ => ?_))
      | exact ih0 _ _ _
      | exact ih1 _ _ _ _ _
      | exact ih2 _ _ _ _ _ _
      | exact LeO.none _
      | refine LeO.ite ?_ ?_
      | refine LeO.bind ?_ (fun _ => ?_)
    · intro y0 y1 y2 y3 y4 y5
      unfold laws_plain.l1
      repeat' first
      | (with_reducible exact ih0 _ _ _)
      | (with_reducible exact ih1 _ _ _ _ _)
      | (with_reducible exact ih2 _ _ _ _ _ _)
      | (with_reducible exact LeO.refl _)
      | (with_reducible exact LeO.none _)
      | (with_reducible refine LeO.ite ?_ ?_)
      | (with_reducible refine LeO.bind ?_ (fun _ => ?_))
      | exact ih0 _ _ _
      | exact ih1 _ _ _ _ _
      | exact ih2 _ _ _ _ _ _
      | exact LeO.none _
      | refine LeO.ite ?_ ?_
      | refine LeO.bind ?_ (fun _ => ?_)
theorem laws_plain.mono : ∀ a0 a1 k, LeO (laws_plain.f k a0 a1) (laws_plain.f (k + 1) a0 a1) := by
  intro a0 a1 k
  obtain ⟨ih0, ih1, ih2⟩ := laws_plain.mono_l k
  unfold laws_plain.f
  repeat' first
      | (with_reducible exact ih0 _ _ _)
      | (with_reducible exact ih1 _ _ _ _ _)
      | (with_reducible exact ih2 _ _ _ _ _ _)
      | (with_reducible exact LeO.refl _)
      | (with_reducible exact LeO.none _)
      | (with_reducible refine LeO.ite ?_ ?_)
      | (with_reducible refine LeO.bind ?_ (fun _ => ?_))
      | exact ih0 _ _ _
      | exact ih1 _ _ _ _ _
      | exact ih2 _ _ _ _ _ _
      | exact LeO.none _
      | refine LeO.ite ?_ ?_
      | refine LeO.bind ?_ (fun _ => ?_)
set_option maxHeartbeats 8000000 in
set_option maxRecDepth 100000 in
theorem laws_plain.calls (k : Nat) (a0 : ByteArray) (a1 : ByteArray) (r : Bool) (w : World) (h : laws_plain.f k a0 a1 = some r) :
    Calls Tryd.prog 6 #[.string a0, .string a1] w fun e w' => e = .returned (.bool r) ∧ Drawn0 w w' := by
  have H : (laws_plain.l0 k a0 a1 0) = some r := h
  clear h
  have H' := Aside0.mk H
  clear H
  go_enter Tryd.func6, Tryd.ntmps6
  go_wp2
  go_loopg [5] k (fun kq v5 w' => ∃ (x5_1 : Int), v5 = .int .i64 x5_1 ∧ Aside0 (laws_plain.l0 kq a0 a1 x5_1 = some r) ∧ Aside0 (kq ≤ k) ∧ Drawn0 w w')
  case atStart => exact ⟨(0), (by first | rfl | (simp; done) | (simp [*]; done) | (simp [bne_nil_]; done)), H', ⟨Nat.le_refl _⟩, by repeat (first | exact Drawn0.refl _ | apply Drawn0.step)⟩
  case round =>
    clear H'
    try clear p2
    obtain ⟨x5_1, rfl, HA, HK1, ⟨m1, rfl⟩⟩ := hrel
    cases gk with
    | zero => exact absurd HA.out (by simp [laws_plain.l0])
    | succ k1 =>
      have H := HA.out
      clear HA
      simp only [laws_plain.l0] at H
      by_cases c3 : x5_1 < (a0.size : Int)
      · rw [if_pos c3] at H
        have c3b0 : decide (x5_1 < (a0.size : Int)) = true := decide_eq_true c3
        clear c3
        by_cases c4 : 0 ≤ x5_1
        · rw [if_pos c4] at H
          have c4b0 : decide (0 ≤ x5_1) = true := decide_eq_true c4
          clear c4
          have HC6 := Aside0.mk H
          clear H
          have p5 : 0 ≤ (x5_1 : Int) := of_decide_eq_true (by first | (with_reducible assumption) | assumption)
          have q5 : x5_1 < (a0.size : Int) := of_decide_eq_true (by first | (with_reducible assumption) | assumption)
          have hx5 := bt_at a0 x5_1
          replace p5 := eq_true p5
          replace q5 := eq_true q5
          go_upto_region 5 with (fail)
          go_cut [7] (fun v7 wc => ∃ (kq : Nat) (x7_5 : Bool), v7 = .bool x7_5 ∧ Aside0 (laws_plain.j1 kq a0 a1 x5_1 (bt a0 x5_1) x7_5 = some r) ∧ Aside0 (kq ≤ k1) ∧ Drawn0 w wc)
          case first =>
            have H := HC6.out
            clear HC6
            by_cases c7 : (bt a0 x5_1) ≥ 48
            · rw [if_pos c7] at H
              have c7b0 : decide (48 ≤ (bt a0 x5_1)) = true := decide_eq_true c7
              clear c7
              (first | rw [c7b0] | (simp only [i64_w, i32_w]; rw [c7b0]) | skip)
              by_cases c8 : (bt a0 x5_1) ≤ 57
              · rw [if_pos c8] at H
                have c8b0 : decide ((bt a0 x5_1) ≤ 57) = true := decide_eq_true c8
                clear c8
                have H' := Aside0.mk H
                clear H
                go_wp2
                go_meet
                case rel => exact ⟨_, (true), (by first | rfl | (simp; done) | (simp [*]; done) | (simp [bne_nil_]; done)), H', ⟨by have := HK1.out; first | omega | exact Nat.le_refl _⟩, by repeat (first | exact Drawn0.refl _ | apply Drawn0.step)⟩
              · rw [if_neg c8] at H
                have c8b0 : decide ((bt a0 x5_1) ≤ 57) = false := decide_eq_false c8
                clear c8
                by_cases c9 : (bt a0 x5_1) ≥ 97
                · rw [if_pos c9] at H
                  have c9b0 : decide (97 ≤ (bt a0 x5_1)) = true := decide_eq_true c9
                  clear c9
                  by_cases c10 : (bt a0 x5_1) ≤ 122
                  · rw [if_pos c10] at H
                    have c10b0 : decide ((bt a0 x5_1) ≤ 122) = true := decide_eq_true c10
                    clear c10
                    have H' := Aside0.mk H
                    clear H
                    go_wp2
                    go_meet
                    case rel => exact ⟨_, (true), (by first | rfl | (simp; done) | (simp [*]; done) | (simp [bne_nil_]; done)), H', ⟨by have := HK1.out; first | omega | exact Nat.le_refl _⟩, by repeat (first | exact Drawn0.refl _ | apply Drawn0.step)⟩
                  · rw [if_neg c10] at H
                    have c10b0 : decide ((bt a0 x5_1) ≤ 122) = false := decide_eq_false c10
                    clear c10
                    by_cases c11 : (bt a0 x5_1) ≥ 65
                    · rw [if_pos c11] at H
                      have c11b0 : decide (65 ≤ (bt a0 x5_1)) = true := decide_eq_true c11
                      clear c11
                      have H' := Aside0.mk H
                      clear H
                      go_wp2
                      go_meet
                      case rel => exact ⟨_, (decide ((bt a0 x5_1) ≤ 90)), (by first | rfl | (simp; done) | (simp [*]; done) | (simp [bne_nil_]; done)), H', ⟨by have := HK1.out; first | omega | exact Nat.le_refl _⟩, by repeat (first | exact Drawn0.refl _ | apply Drawn0.step)⟩
                    · rw [if_neg c11] at H
                      have c11b0 : decide (65 ≤ (bt a0 x5_1)) = false := decide_eq_false c11
                      clear c11
                      have H' := Aside0.mk H
                      clear H
                      go_wp2
                      go_meet
                      case rel => exact ⟨_, (false), (by first | rfl | (simp; done) | (simp [*]; done) | (simp [bne_nil_]; done)), H', ⟨by have := HK1.out; first | omega | exact Nat.le_refl _⟩, by repeat (first | exact Drawn0.refl _ | apply Drawn0.step)⟩
                · rw [if_neg c9] at H
                  have c9b0 : decide (97 ≤ (bt a0 x5_1)) = false := decide_eq_false c9
                  clear c9
                  by_cases c12 : (bt a0 x5_1) ≥ 65
                  · rw [if_pos c12] at H
                    have c12b0 : decide (65 ≤ (bt a0 x5_1)) = true := decide_eq_true c12
                    clear c12
                    have H' := Aside0.mk H
                    clear H
                    go_wp2
                    go_meet
                    case rel => exact ⟨_, (decide ((bt a0 x5_1) ≤ 90)), (by first | rfl | (simp; done) | (simp [*]; done) | (simp [bne_nil_]; done)), H', ⟨by have := HK1.out; first | omega | exact Nat.le_refl _⟩, by repeat (first | exact Drawn0.refl _ | apply Drawn0.step)⟩
                  · rw [if_neg c12] at H
                    have c12b0 : decide (65 ≤ (bt a0 x5_1)) = false := decide_eq_false c12
                    clear c12
                    have H' := Aside0.mk H
                    clear H
                    go_wp2
                    go_meet
                    case rel => exact ⟨_, (false), (by first | rfl | (simp; done) | (simp [*]; done) | (simp [bne_nil_]; done)), H', ⟨by have := HK1.out; first | omega | exact Nat.le_refl _⟩, by repeat (first | exact Drawn0.refl _ | apply Drawn0.step)⟩
            · rw [if_neg c7] at H
              have c7b0 : decide (48 ≤ (bt a0 x5_1)) = false := decide_eq_false c7
              clear c7
              (first | rw [c7b0] | (simp only [i64_w, i32_w]; rw [c7b0]) | skip)
              by_cases c13 : (bt a0 x5_1) ≥ 97
              · rw [if_pos c13] at H
                have c13b0 : decide (97 ≤ (bt a0 x5_1)) = true := decide_eq_true c13
                clear c13
                by_cases c14 : (bt a0 x5_1) ≤ 122
                · rw [if_pos c14] at H
                  have c14b0 : decide ((bt a0 x5_1) ≤ 122) = true := decide_eq_true c14
                  clear c14
                  have H' := Aside0.mk H
                  clear H
                  go_wp2
                  go_meet
                  case rel => exact ⟨_, (true), (by first | rfl | (simp; done) | (simp [*]; done) | (simp [bne_nil_]; done)), H', ⟨by have := HK1.out; first | omega | exact Nat.le_refl _⟩, by repeat (first | exact Drawn0.refl _ | apply Drawn0.step)⟩
                · rw [if_neg c14] at H
                  have c14b0 : decide ((bt a0 x5_1) ≤ 122) = false := decide_eq_false c14
                  clear c14
                  by_cases c15 : (bt a0 x5_1) ≥ 65
                  · rw [if_pos c15] at H
                    have c15b0 : decide (65 ≤ (bt a0 x5_1)) = true := decide_eq_true c15
                    clear c15
                    have H' := Aside0.mk H
                    clear H
                    go_wp2
                    go_meet
                    case rel => exact ⟨_, (decide ((bt a0 x5_1) ≤ 90)), (by first | rfl | (simp; done) | (simp [*]; done) | (simp [bne_nil_]; done)), H', ⟨by have := HK1.out; first | omega | exact Nat.le_refl _⟩, by repeat (first | exact Drawn0.refl _ | apply Drawn0.step)⟩
                  · rw [if_neg c15] at H
                    have c15b0 : decide (65 ≤ (bt a0 x5_1)) = false := decide_eq_false c15
                    clear c15
                    have H' := Aside0.mk H
                    clear H
                    go_wp2
                    go_meet
                    case rel => exact ⟨_, (false), (by first | rfl | (simp; done) | (simp [*]; done) | (simp [bne_nil_]; done)), H', ⟨by have := HK1.out; first | omega | exact Nat.le_refl _⟩, by repeat (first | exact Drawn0.refl _ | apply Drawn0.step)⟩
              · rw [if_neg c13] at H
                have c13b0 : decide (97 ≤ (bt a0 x5_1)) = false := decide_eq_false c13
                clear c13
                by_cases c16 : (bt a0 x5_1) ≥ 65
                · rw [if_pos c16] at H
                  have c16b0 : decide (65 ≤ (bt a0 x5_1)) = true := decide_eq_true c16
                  clear c16
                  have H' := Aside0.mk H
                  clear H
                  go_wp2
                  go_meet
                  case rel => exact ⟨_, (decide ((bt a0 x5_1) ≤ 90)), (by first | rfl | (simp; done) | (simp [*]; done) | (simp [bne_nil_]; done)), H', ⟨by have := HK1.out; first | omega | exact Nat.le_refl _⟩, by repeat (first | exact Drawn0.refl _ | apply Drawn0.step)⟩
                · rw [if_neg c16] at H
                  have c16b0 : decide (65 ≤ (bt a0 x5_1)) = false := decide_eq_false c16
                  clear c16
                  have H' := Aside0.mk H
                  clear H
                  go_wp2
                  go_meet
                  case rel => exact ⟨_, (false), (by first | rfl | (simp; done) | (simp [*]; done) | (simp [bne_nil_]; done)), H', ⟨by have := HK1.out; first | omega | exact Nat.le_refl _⟩, by repeat (first | exact Drawn0.refl _ | apply Drawn0.step)⟩
          case rest =>
            clear HC6
            try clear c1
            try clear p2
            try clear c3
            try clear c3b0
            try clear c4
            try clear c4b0
            try clear p5
            try clear q5
            try clear hx5
            try clear c6
            try clear c7
            try clear c7b0
            try clear c8
            try clear c8b0
            try clear c9
            try clear c9b0
            try clear c10
            try clear c10b0
            try clear c11
            try clear c11b0
            try clear c12
            try clear c12b0
            try clear c13
            try clear c13b0
            try clear c14
            try clear c14b0
            try clear c15
            try clear c15b0
            try clear c16
            try clear c16b0
            try clear p2
            try clear p5
            try clear q5
            obtain ⟨kq, x7_5, rfl, HA, HJ5, ⟨mc5, rfl⟩⟩ := hcut
            cases kq with
            | zero => exact absurd HA.out (by simp [laws_plain.j1])
            | succ kj5 =>
              have H := HA.out
              clear HA
              simp only [laws_plain.j1] at H
              have H' := Aside0.mk H
              clear H
              go_wp2
              go_loopg [7, 8] kj5 (fun kq v7 v8 w' => ∃ (x7_3 : Bool) (x8_3 : Int), v7 = .bool x7_3 ∧ v8 = .int .i64 x8_3 ∧ Aside0 (laws_plain.l1 kq a0 a1 x5_1 (bt a0 x5_1) x7_3 x8_3 = some r) ∧ Aside0 (kq ≤ kj5) ∧ Drawn0 w w')
              case atStart => exact ⟨(x7_5), (0), (by first | rfl | (simp; done) | (simp [*]; done) | (simp [bne_nil_]; done)), (by first | rfl | (simp; done) | (simp [*]; done) | (simp [bne_nil_]; done)), H', ⟨Nat.le_refl _⟩, by repeat (first | exact Drawn0.refl _ | apply Drawn0.step)⟩
              case round =>
                clear H'
                try clear c1
                try clear p2
                try clear c3
                try clear c3b0
                try clear c4
                try clear c4b0
                try clear c5
                try clear p5
                try clear q5
                try clear hx5
                try clear c6
                try clear c7
                try clear c7b0
                try clear c8
                try clear c8b0
                try clear c9
                try clear c9b0
                try clear c10
                try clear c10b0
                try clear c11
                try clear c11b0
                try clear c12
                try clear c12b0
                try clear c13
                try clear c13b0
                try clear c14
                try clear c14b0
                try clear c15
                try clear c15b0
                try clear c16
                try clear c16b0
                try clear p2
                try clear p5
                try clear q5
                obtain ⟨x7_3, x8_3, rfl, rfl, HA, HK3, ⟨m3, rfl⟩⟩ := hrel
                cases gk with
                | zero => exact absurd HA.out (by simp [laws_plain.l1])
                | succ k3 =>
                  have H := HA.out
                  clear HA
                  simp only [laws_plain.l1] at H
                  by_cases c17 : x8_3 < (a1.size : Int)
                  · rw [if_pos c17] at H
                    have c17b0 : decide (x8_3 < (a1.size : Int)) = true := decide_eq_true c17
                    clear c17
                    by_cases c18 : x7_3 = true
                    · subst c18
                      have H1 : (laws_plain.l1 k3 a0 a1 x5_1 (bt a0 x5_1) true (wrap64 (x8_3 + 1))) = some r := by rw [if_pos rfl] at H; exact H
                      clear H
                      have H := H1
                      clear H1
                      have H' := Aside0.mk H
                      clear H
                      go_wp2
                      go_roundg k3
                      case measure => have := HK1.out; have := HJ5.out; have := HK3.out; omega
                      case rel => exact ⟨(true), (wrap64 (x8_3 + 1)), (by first | rfl | (simp; done) | (simp [*]; done) | (simp [bne_nil_]; done)), (by first | rfl | (simp; done) | (simp [*]; done) | (simp [bne_nil_]; done)), H', ⟨by have := HK1.out; have := HJ5.out; have := HK3.out; omega⟩, by repeat (first | exact Drawn0.refl _ | apply Drawn0.step)⟩
                    · replace c18 := Bool.eq_false_iff.mpr c18
                      subst c18
                      have H1 : (if 0 ≤ x8_3 then (laws_plain.l1 k3 a0 a1 x5_1 (bt a0 x5_1) ((bt a0 x5_1) == (bt a1 x8_3)) (wrap64 (x8_3 + 1))) else (none)) = some r := by rw [if_neg (show ¬ (false = true) by decide)] at H; exact H
                      clear H
                      have H := H1
                      clear H1
                      by_cases c19 : 0 ≤ x8_3
                      · rw [if_pos c19] at H
                        have c19b0 : decide (0 ≤ x8_3) = true := decide_eq_true c19
                        clear c19
                        have H' := Aside0.mk H
                        clear H
                        have p20 : 0 ≤ (x8_3 : Int) := of_decide_eq_true (by first | (with_reducible assumption) | assumption)
                        have q20 : x8_3 < (a1.size : Int) := of_decide_eq_true (by first | (with_reducible assumption) | assumption)
                        have hx20 := bt_at a1 x8_3
                        replace p20 := eq_true p20
                        replace q20 := eq_true q20
                        go_wp2
                        go_roundg k3
                        case measure => have := HK1.out; have := HJ5.out; have := HK3.out; omega
                        case rel => exact ⟨(((bt a0 x5_1) == (bt a1 x8_3))), (wrap64 (x8_3 + 1)), (by first | rfl | (simp; done) | (simp [*]; done) | (simp [bne_nil_]; done)), (by first | rfl | (simp; done) | (simp [*]; done) | (simp [bne_nil_]; done)), H', ⟨by have := HK1.out; have := HJ5.out; have := HK3.out; omega⟩, by repeat (first | exact Drawn0.refl _ | apply Drawn0.step)⟩
                      · rw [if_neg c19] at H
                        exact absurd H (by simp)
                  · rw [if_neg c17] at H
                    have c17b0 : decide (x8_3 < (a1.size : Int)) = false := decide_eq_false c17
                    clear c17
                    by_cases c21 : x7_3 = true
                    · subst c21
                      have H1 : (laws_plain.l0 k3 a0 a1 (wrap64 (x5_1 + 1))) = some r := by rw [if_pos rfl] at H; exact H
                      clear H
                      have H := H1
                      clear H1
                      have H' := Aside0.mk H
                      clear H
                      go_wp2
                      go_roundg k3
                      case measure => have := HK1.out; have := HJ5.out; have := HK3.out; omega
                      case rel => exact ⟨(wrap64 (x5_1 + 1)), (by first | rfl | (simp; done) | (simp [*]; done) | (simp [bne_nil_]; done)), H', ⟨by have := HK1.out; have := HJ5.out; have := HK3.out; omega⟩, by repeat (first | exact Drawn0.refl _ | apply Drawn0.step)⟩
                    · replace c21 := Bool.eq_false_iff.mpr c21
                      subst c21
                      have H1 : (some false) = some r := by rw [if_neg (show ¬ (false = true) by decide)] at H; exact H
                      clear H
                      have H := H1
                      clear H1
                      obtain rfl := Option.some.inj H
                      go_wp2
                      go_ret
                      exact ⟨by first | rfl | (simp; done) | (simp [*]; done) | (simp [bne_nil_]; done), by repeat (first | exact Drawn0.refl _ | apply Drawn0.step)⟩
        · rw [if_neg c4] at H
          exact absurd H (by simp)
      · rw [if_neg c3] at H
        have c3b0 : decide (x5_1 < (a0.size : Int)) = false := decide_eq_false c3
        clear c3
        obtain rfl := Option.some.inj H
        go_wp2
        go_ret
        exact ⟨by first | rfl | (simp; done) | (simp [*]; done) | (simp [bne_nil_]; done), by repeat (first | exact Drawn0.refl _ | apply Drawn0.step)⟩

/-- THE ONE PURE STATEMENT of laws_plain: yours. -/
def laws_plain.Pure : Prop := ∀ (a0 : ByteArray) (a1 : ByteArray), a0.size ≤ 140737488351232 → a1.size ≤ 140737488351232 → ∃ k, laws_plain.f k a0 a1 = some true
theorem laws_plain.walk (P : laws_plain.Pure) (a0 : ByteArray) (a1 : ByteArray) (w : World) (w0 : a0.size ≤ 140737488351232) (w1 : a1.size ≤ 140737488351232) :
    Calls Tryd.prog 6 #[.string a0, .string a1] w fun e w' => e = .returned (.bool true) ∧ Below w.heap.size w w' := by
  obtain ⟨k, h⟩ := P a0 a1 w0 w1
  refine (laws_plain.calls k a0 a1 true w h).mono ?_
  rintro e w' ⟨rfl, hd⟩
  exact ⟨rfl, hd.below⟩

/-! ### spec_RedHatKnown: function 7 -/
def spec_RedHatKnown.f (a0 : ByteArray) : Option (Bool) := some (decide ((a0.size : Int) ≥ 0))
set_option maxHeartbeats 8000000 in
set_option maxRecDepth 100000 in
theorem spec_RedHatKnown.calls (a0 : ByteArray) (r : Bool) (w : World) (h : spec_RedHatKnown.f a0 = some r) :
    Calls Tryd.prog 7 #[.string a0] w fun e w' => e = .returned (.bool r) ∧ Drawn0 w w' := by
  have H : (some (decide ((a0.size : Int) ≥ 0))) = some r := h
  clear h
  obtain rfl := Option.some.inj H
  go_enter Tryd.func7, Tryd.ntmps7
  go_wp2
  go_ret
  exact ⟨by first | rfl | (simp; done) | (simp [*]; done) | (simp [bne_nil_]; done), by repeat (first | exact Drawn0.refl _ | apply Drawn0.step)⟩

/-- THE ONE PURE STATEMENT of spec_RedHatKnown: yours. -/
def spec_RedHatKnown.Pure : Prop := ∀ (a0 : ByteArray), a0.size ≤ 140737488351232 → spec_RedHatKnown.f a0 = some true
theorem spec_RedHatKnown.walk (P : spec_RedHatKnown.Pure) (a0 : ByteArray) (w : World) (w0 : a0.size ≤ 140737488351232) :
    Calls Tryd.prog 7 #[.string a0] w fun e w' => e = .returned (.bool true) ∧ Below w.heap.size w w' := by
  have h := P a0 w0
  refine (spec_RedHatKnown.calls a0 true w h).mono ?_
  rintro e w' ⟨rfl, hd⟩
  exact ⟨rfl, hd.below⟩

/-! ### spec_indexOf: function 17 -/
def spec_indexOf.l0 : Nat → ByteArray → Int → Int → Option (Int)
  | 0, _, _, _ => none
  | k + 1, x0, x1, x5 => if x5 < (x0.size : Int) then (if 0 ≤ x5 then (if (bt x0 x5) = x1 then (some x5) else (spec_indexOf.l0 k x0 x1 (wrap64 (x5 + 1)))) else (none)) else (some (-1))
def spec_indexOf.f (k : Nat) (a0 : ByteArray) (a1 : Int) : Option (Int) := spec_indexOf.l0 k a0 a1 0
theorem spec_indexOf.mono_l : ∀ k, (∀ y0 y1 y2, LeO (spec_indexOf.l0 k y0 y1 y2) (spec_indexOf.l0 (k + 1) y0 y1 y2))
  | 0 => fun _ _ _ r h => by simp [spec_indexOf.l0] at h
  | k + 1 => by
    have ih0 := spec_indexOf.mono_l k
    · intro y0 y1 y2
      unfold spec_indexOf.l0
      repeat' first
      | (with_reducible exact ih0 _ _ _)
      | (with_reducible exact LeO.refl _)
      | (with_reducible exact LeO.none _)
      | (with_reducible refine LeO.ite ?_ ?_)
      | (with_reducible refine LeO.bind ?_ (fun _ => ?_))
      | exact ih0 _ _ _
      | exact LeO.none _
      | refine LeO.ite ?_ ?_
      | refine LeO.bind ?_ (fun _ => ?_)
theorem spec_indexOf.mono : ∀ a0 a1 k, LeO (spec_indexOf.f k a0 a1) (spec_indexOf.f (k + 1) a0 a1) := by
  intro a0 a1 k
  have ih0 := spec_indexOf.mono_l k
  unfold spec_indexOf.f
  repeat' first
      | (with_reducible exact ih0 _ _ _)
      | (with_reducible exact LeO.refl _)
      | (with_reducible exact LeO.none _)
      | (with_reducible refine LeO.ite ?_ ?_)
      | (with_reducible refine LeO.bind ?_ (fun _ => ?_))
      | exact ih0 _ _ _
      | exact LeO.none _
      | refine LeO.ite ?_ ?_
      | refine LeO.bind ?_ (fun _ => ?_)
set_option maxHeartbeats 8000000 in
set_option maxRecDepth 100000 in
theorem spec_indexOf.calls (k : Nat) (a0 : ByteArray) (a1 : Int) (r : Int) (w : World) (h : spec_indexOf.f k a0 a1 = some r) :
    Calls Tryd.prog 17 #[.string a0, .int .u8 a1] w fun e w' => e = .returned (.int .i64 r) ∧ Drawn0 w w' := by
  have H : (spec_indexOf.l0 k a0 a1 0) = some r := h
  clear h
  have H' := Aside0.mk H
  clear H
  go_enter Tryd.func17, Tryd.ntmps17
  go_wp2
  go_loopg [5] k (fun kq v5 w' => ∃ (x5_1 : Int), v5 = .int .i64 x5_1 ∧ Aside0 (spec_indexOf.l0 kq a0 a1 x5_1 = some r) ∧ Aside0 (kq ≤ k) ∧ Drawn0 w w')
  case atStart => exact ⟨(0), (by first | rfl | (simp; done) | (simp [*]; done) | (simp [bne_nil_]; done)), H', ⟨Nat.le_refl _⟩, by repeat (first | exact Drawn0.refl _ | apply Drawn0.step)⟩
  case round =>
    clear H'
    try clear c1
    try clear p2
    obtain ⟨x5_1, rfl, HA, HK1, ⟨m1, rfl⟩⟩ := hrel
    cases gk with
    | zero => exact absurd HA.out (by simp [spec_indexOf.l0])
    | succ k1 =>
      have H := HA.out
      clear HA
      simp only [spec_indexOf.l0] at H
      by_cases c3 : x5_1 < (a0.size : Int)
      · rw [if_pos c3] at H
        have c3b0 : decide (x5_1 < (a0.size : Int)) = true := decide_eq_true c3
        clear c3
        by_cases c4 : 0 ≤ x5_1
        · rw [if_pos c4] at H
          have c4b0 : decide (0 ≤ x5_1) = true := decide_eq_true c4
          clear c4
          by_cases c6 : (bt a0 x5_1) = a1
          · rw [if_pos c6] at H
            have c6b0 : ((bt a0 x5_1) == a1) = true := beq_iff_eq.mpr c6
            have c6b1 : ((bt a0 x5_1) != a1) = false := bne_eq_false_iff_eq.mpr c6
            clear c6
            obtain rfl := Option.some.inj H
            have p5 : 0 ≤ (x5_1 : Int) := of_decide_eq_true (by first | (with_reducible assumption) | assumption)
            have q5 : x5_1 < (a0.size : Int) := of_decide_eq_true (by first | (with_reducible assumption) | assumption)
            have hx5 := bt_at a0 x5_1
            replace p5 := eq_true p5
            replace q5 := eq_true q5
            go_wp2
            go_ret
            exact ⟨by first | rfl | (simp; done) | (simp [*]; done) | (simp [bne_nil_]; done), by repeat (first | exact Drawn0.refl _ | apply Drawn0.step)⟩
          · rw [if_neg c6] at H
            have c6b0 : ((bt a0 x5_1) == a1) = false := beq_eq_false_iff_ne.mpr c6
            have c6b1 : ((bt a0 x5_1) != a1) = true := bne_iff_ne.mpr c6
            have H' := Aside0.mk H
            clear H
            have p5 : 0 ≤ (x5_1 : Int) := of_decide_eq_true (by first | (with_reducible assumption) | assumption)
            have q5 : x5_1 < (a0.size : Int) := of_decide_eq_true (by first | (with_reducible assumption) | assumption)
            have hx5 := bt_at a0 x5_1
            replace p5 := eq_true p5
            replace q5 := eq_true q5
            go_wp2
            go_roundg k1
            case measure => have := HK1.out; omega
            case rel => exact ⟨(wrap64 (x5_1 + 1)), (by first | rfl | (simp; done) | (simp [*]; done) | (simp [bne_nil_]; done)), H', ⟨by have := HK1.out; omega⟩, by repeat (first | exact Drawn0.refl _ | apply Drawn0.step)⟩
        · rw [if_neg c4] at H
          exact absurd H (by simp)
      · rw [if_neg c3] at H
        have c3b0 : decide (x5_1 < (a0.size : Int)) = false := decide_eq_false c3
        clear c3
        obtain rfl := Option.some.inj H
        go_wp2
        go_ret
        exact ⟨by first | rfl | (simp; done) | (simp [*]; done) | (simp [bne_nil_]; done), by repeat (first | exact Drawn0.refl _ | apply Drawn0.step)⟩

/-! ### spec_isDigit: function 26 -/
def spec_isDigit.f (a0 : Int) : Option (Bool) := if a0 ≥ 48 then (some (decide (a0 ≤ 57))) else (some false)
set_option maxHeartbeats 8000000 in
set_option maxRecDepth 100000 in
theorem spec_isDigit.calls (a0 : Int) (r : Bool) (w : World) (h : spec_isDigit.f a0 = some r) :
    Calls Tryd.prog 26 #[.int .u8 a0] w fun e w' => e = .returned (.bool r) ∧ Drawn0 w w' := by
  have H : (if a0 ≥ 48 then (some (decide (a0 ≤ 57))) else (some false)) = some r := h
  clear h
  by_cases c2 : a0 ≥ 48
  · rw [if_pos c2] at H
    have c2b0 : decide (48 ≤ a0) = true := decide_eq_true c2
    clear c2
    obtain rfl := Option.some.inj H
    go_enter Tryd.func26, Tryd.ntmps26
    go_wp2
    go_ret
    exact ⟨by first | rfl | (simp; done) | (simp [*]; done) | (simp [bne_nil_]; done), by repeat (first | exact Drawn0.refl _ | apply Drawn0.step)⟩
  · rw [if_neg c2] at H
    have c2b0 : decide (48 ≤ a0) = false := decide_eq_false c2
    clear c2
    obtain rfl := Option.some.inj H
    go_enter Tryd.func26, Tryd.ntmps26
    go_wp2
    go_ret
    exact ⟨by first | rfl | (simp; done) | (simp [*]; done) | (simp [bne_nil_]; done), by repeat (first | exact Drawn0.refl _ | apply Drawn0.step)⟩

/-! ### spec_allDigits: function 18 -/
def spec_allDigits.l0 : Nat → ByteArray → Int → Option (Bool)
  | 0, _, _ => none
  | k + 1, x0, x3 => if x3 < (x0.size : Int) then (if 0 ≤ x3 then ((spec_isDigit.f (bt x0 x3)).bind fun t103 => (if t103 = true then (spec_allDigits.l0 k x0 (wrap64 (x3 + 1))) else (some false))) else (none)) else (some (decide ((x0.size : Int) > 0)))
def spec_allDigits.f (k : Nat) (a0 : ByteArray) : Option (Bool) := spec_allDigits.l0 k a0 0
theorem spec_allDigits.mono_l : ∀ k, (∀ y0 y1, LeO (spec_allDigits.l0 k y0 y1) (spec_allDigits.l0 (k + 1) y0 y1))
  | 0 => fun _ _ r h => by simp [spec_allDigits.l0] at h
  | k + 1 => by
    have ih0 := spec_allDigits.mono_l k
    · intro y0 y1
      unfold spec_allDigits.l0
      repeat' first
      | (with_reducible exact ih0 _ _)
      | (with_reducible exact LeO.refl _)
      | (with_reducible exact LeO.none _)
      | (with_reducible refine LeO.ite ?_ ?_)
      | (with_reducible refine LeO.bind ?_ (fun _ => ?_))
      | exact ih0 _ _
      | exact LeO.none _
      | refine LeO.ite ?_ ?_
      | refine LeO.bind ?_ (fun _ => ?_)
theorem spec_allDigits.mono : ∀ a0 k, LeO (spec_allDigits.f k a0) (spec_allDigits.f (k + 1) a0) := by
  intro a0 k
  have ih0 := spec_allDigits.mono_l k
  unfold spec_allDigits.f
  repeat' first
      | (with_reducible exact ih0 _ _)
      | (with_reducible exact LeO.refl _)
      | (with_reducible exact LeO.none _)
      | (with_reducible refine LeO.ite ?_ ?_)
      | (with_reducible refine LeO.bind ?_ (fun _ => ?_))
      | exact ih0 _ _
      | exact LeO.none _
      | refine LeO.ite ?_ ?_
      | refine LeO.bind ?_ (fun _ => ?_)
set_option maxHeartbeats 8000000 in
set_option maxRecDepth 100000 in
theorem spec_allDigits.calls (k : Nat) (a0 : ByteArray) (r : Bool) (w : World) (h : spec_allDigits.f k a0 = some r) :
    Calls Tryd.prog 18 #[.string a0] w fun e w' => e = .returned (.bool r) ∧ Drawn0 w w' := by
  have H : (spec_allDigits.l0 k a0 0) = some r := h
  clear h
  have H' := Aside0.mk H
  clear H
  go_enter Tryd.func18, Tryd.ntmps18
  go_wp2
  go_loopg [3] k (fun kq v3 w' => ∃ (x3_1 : Int), v3 = .int .i64 x3_1 ∧ Aside0 (spec_allDigits.l0 kq a0 x3_1 = some r) ∧ Aside0 (kq ≤ k) ∧ Drawn0 w w')
  case atStart => exact ⟨(0), (by first | rfl | (simp; done) | (simp [*]; done) | (simp [bne_nil_]; done)), H', ⟨Nat.le_refl _⟩, by repeat (first | exact Drawn0.refl _ | apply Drawn0.step)⟩
  case round =>
    clear H'
    try clear c1
    obtain ⟨x3_1, rfl, HA, HK1, ⟨m1, rfl⟩⟩ := hrel
    cases gk with
    | zero => exact absurd HA.out (by simp [spec_allDigits.l0])
    | succ k1 =>
      have H := HA.out
      clear HA
      simp only [spec_allDigits.l0] at H
      by_cases c2 : x3_1 < (a0.size : Int)
      · rw [if_pos c2] at H
        have c2b0 : decide (x3_1 < (a0.size : Int)) = true := decide_eq_true c2
        clear c2
        by_cases c3 : 0 ≤ x3_1
        · rw [if_pos c3] at H
          have c3b0 : decide (0 ≤ x3_1) = true := decide_eq_true c3
          clear c3
          replace H := Option.bind_eq_some_iff.mp H
          obtain ⟨t103, A50, H⟩ := H
          replace H : (if t103 = true then (spec_allDigits.l0 k1 a0 (wrap64 (x3_1 + 1))) else (some false)) = some r := H
          have A5 := Aside0.mk A50
          clear A50
          by_cases c6 : t103 = true
          · subst c6
            have H1 : (spec_allDigits.l0 k1 a0 (wrap64 (x3_1 + 1))) = some r := by rw [if_pos rfl] at H; exact H
            clear H
            have H := H1
            clear H1
            have H' := Aside0.mk H
            clear H
            have p4 : 0 ≤ (x3_1 : Int) := of_decide_eq_true (by first | (with_reducible assumption) | assumption)
            have q4 : x3_1 < (a0.size : Int) := of_decide_eq_true (by first | (with_reducible assumption) | assumption)
            have hx4 := bt_at a0 x3_1
            replace p4 := eq_true p4
            replace q4 := eq_true q4
            go_wp2_with (first | ((with_reducible refine gate_callee (f := 26) rfl ?_); refine goesL_ (some 13) rfl rfl Tryd.func26 (by kernel_rfl) rfl #[.int .u8 (bt a0 x3_1)] rfl (by (try simp only [List.map_toArray, List.map_cons, List.map_nil]); first | done | rfl | (simp only [List.length_drop, List.length_take]; rfl)) ?_; (with_reducible refine (spec_isDigit.calls (bt a0 x3_1) true _ A5.out).mono ?_); rintro e w' ⟨rfl, ⟨nd, rfl⟩⟩; refine ⟨_, rfl, ?_⟩))
            go_roundg k1
            case measure => have := HK1.out; omega
            case rel => exact ⟨(wrap64 (x3_1 + 1)), (by first | rfl | (simp; done) | (simp [*]; done) | (simp [bne_nil_]; done)), H', ⟨by have := HK1.out; omega⟩, by repeat (first | exact Drawn0.refl _ | apply Drawn0.step)⟩
          · replace c6 := Bool.eq_false_iff.mpr c6
            subst c6
            have H1 : (some false) = some r := by rw [if_neg (show ¬ (false = true) by decide)] at H; exact H
            clear H
            have H := H1
            clear H1
            obtain rfl := Option.some.inj H
            have p4 : 0 ≤ (x3_1 : Int) := of_decide_eq_true (by first | (with_reducible assumption) | assumption)
            have q4 : x3_1 < (a0.size : Int) := of_decide_eq_true (by first | (with_reducible assumption) | assumption)
            have hx4 := bt_at a0 x3_1
            replace p4 := eq_true p4
            replace q4 := eq_true q4
            go_wp2_with (first | ((with_reducible refine gate_callee (f := 26) rfl ?_); refine goesL_ (some 13) rfl rfl Tryd.func26 (by kernel_rfl) rfl #[.int .u8 (bt a0 x3_1)] rfl (by (try simp only [List.map_toArray, List.map_cons, List.map_nil]); first | done | rfl | (simp only [List.length_drop, List.length_take]; rfl)) ?_; (with_reducible refine (spec_isDigit.calls (bt a0 x3_1) false _ A5.out).mono ?_); rintro e w' ⟨rfl, ⟨nd, rfl⟩⟩; refine ⟨_, rfl, ?_⟩))
            go_ret
            exact ⟨by first | rfl | (simp; done) | (simp [*]; done) | (simp [bne_nil_]; done), by repeat (first | exact Drawn0.refl _ | apply Drawn0.step)⟩
        · rw [if_neg c3] at H
          exact absurd H (by simp)
      · rw [if_neg c2] at H
        have c2b0 : decide (x3_1 < (a0.size : Int)) = false := decide_eq_false c2
        clear c2
        obtain rfl := Option.some.inj H
        go_wp2
        go_ret
        exact ⟨by first | rfl | (simp; done) | (simp [*]; done) | (simp [bne_nil_]; done), by repeat (first | exact Drawn0.refl _ | apply Drawn0.step)⟩

/-! ### spec_RedHatParse: function 12 -/
def spec_RedHatParse.j0 : Nat → ByteArray → Int → Bool → ByteArray → ByteArray → ByteArray → Option (ByteArray × ByteArray × ByteArray)
  | 0, _, _, _, _, _, _ => none
  | k + 1, x0, x4, x20, x106000, x106001, x106002 => if x20 = true then (if x4 > 0 then (if 0 ≤ x4 then (if x4 ≤ (x0.size : Int) then (if 0 ≤ (wrap64 (x4 + 1)) then (if (wrap64 (x4 + 1)) ≤ (x0.size : Int) then ((spec_indexOf.f k (x0.extract ((wrap64 (x4 + 1)) : Int).toNat x0.size) 45).bind fun t108 => (if t108 ≥ 0 then (if 0 ≤ t108 then (if t108 ≤ ((x0.extract ((wrap64 (x4 + 1)) : Int).toNat x0.size).size : Int) then (some (x0.extract 0 (x4 : Int).toNat, (x0.extract ((wrap64 (x4 + 1)) : Int).toNat x0.size).extract 0 (t108 : Int).toNat, (x0.extract ((wrap64 (x4 + 1)) : Int).toNat x0.size).extract (t108 : Int).toNat (x0.size - ((wrap64 (x4 + 1)) : Int).toNat))) else (none)) else (none)) else (some (x0.extract 0 (x4 : Int).toNat, x0.extract ((wrap64 (x4 + 1)) : Int).toNat x0.size, x106002)))) else (none)) else (none)) else (none)) else (none)) else (if 0 ≤ (wrap64 (x4 + 1)) then (if (wrap64 (x4 + 1)) ≤ (x0.size : Int) then ((spec_indexOf.f k (x0.extract ((wrap64 (x4 + 1)) : Int).toNat x0.size) 45).bind fun t109 => (if t109 ≥ 0 then (if 0 ≤ t109 then (if t109 ≤ ((x0.extract ((wrap64 (x4 + 1)) : Int).toNat x0.size).size : Int) then (some (x106000, (x0.extract ((wrap64 (x4 + 1)) : Int).toNat x0.size).extract 0 (t109 : Int).toNat, (x0.extract ((wrap64 (x4 + 1)) : Int).toNat x0.size).extract (t109 : Int).toNat (x0.size - ((wrap64 (x4 + 1)) : Int).toNat))) else (none)) else (none)) else (some (x106000, x0.extract ((wrap64 (x4 + 1)) : Int).toNat x0.size, x106002)))) else (none)) else (none))) else ((spec_indexOf.f k x0 45).bind fun t110 => (if t110 ≥ 0 then (if 0 ≤ t110 then (if t110 ≤ (x0.size : Int) then (some (x106000, x0.extract 0 (t110 : Int).toNat, x0.extract (t110 : Int).toNat x0.size)) else (none)) else (none)) else (some (x106000, x0, x106002))))
def spec_RedHatParse.f (k : Nat) (a0 : ByteArray) : Option (ByteArray × ByteArray × ByteArray) := (spec_indexOf.f k a0 58).bind fun t106 => (if t106 ≥ 0 then (if t106 = 0 then (spec_RedHatParse.j0 k a0 t106 true (⟨#[48]⟩ : ByteArray) (⟨#[]⟩ : ByteArray) (⟨#[]⟩ : ByteArray)) else (if 0 ≤ t106 then (if t106 ≤ (a0.size : Int) then ((spec_allDigits.f k (a0.extract 0 (t106 : Int).toNat)).bind fun t107 => (spec_RedHatParse.j0 k a0 t106 t107 (⟨#[48]⟩ : ByteArray) (⟨#[]⟩ : ByteArray) (⟨#[]⟩ : ByteArray))) else (none)) else (none))) else (spec_RedHatParse.j0 k a0 t106 false (⟨#[48]⟩ : ByteArray) (⟨#[]⟩ : ByteArray) (⟨#[]⟩ : ByteArray)))
theorem spec_RedHatParse.mono_l : ∀ k, (∀ y0 y1 y2 y3 y4 y5, LeO (spec_RedHatParse.j0 k y0 y1 y2 y3 y4 y5) (spec_RedHatParse.j0 (k + 1) y0 y1 y2 y3 y4 y5))
  | 0 => fun _ _ _ _ _ _ r h => by simp [spec_RedHatParse.j0] at h
  | k + 1 => by
    have ih0 := spec_RedHatParse.mono_l k
    · intro y0 y1 y2 y3 y4 y5
      unfold spec_RedHatParse.j0
      repeat' first
      | (with_reducible exact ih0 _ _ _ _ _ _)
      | (with_reducible exact spec_allDigits.mono _ _)
      | (with_reducible exact spec_indexOf.mono _ _ _)
      | (with_reducible exact LeO.refl _)
      | (with_reducible exact LeO.none _)
      | (with_reducible refine LeO.ite ?_ ?_)
      | (with_reducible refine LeO.bind ?_ (fun _ => ?_))
      | exact ih0 _ _ _ _ _ _
      | exact spec_allDigits.mono _ _
      | exact spec_indexOf.mono _ _ _
      | exact LeO.none _
      | refine LeO.ite ?_ ?_
      | refine LeO.bind ?_ (fun _ => ?_)
theorem spec_RedHatParse.mono : ∀ a0 k, LeO (spec_RedHatParse.f k a0) (spec_RedHatParse.f (k + 1) a0) := by
  intro a0 k
  have ih0 := spec_RedHatParse.mono_l k
  unfold spec_RedHatParse.f
  repeat' first
      | (with_reducible exact ih0 _ _ _ _ _ _)
      | (with_reducible exact spec_allDigits.mono _ _)
      | (with_reducible exact spec_indexOf.mono _ _ _)
      | (with_reducible exact LeO.refl _)
      | (with_reducible exact LeO.none _)
      | (with_reducible refine LeO.ite ?_ ?_)
      | (with_reducible refine LeO.bind ?_ (fun _ => ?_))
      | exact ih0 _ _ _ _ _ _
      | exact spec_allDigits.mono _ _
      | exact spec_indexOf.mono _ _ _
      | exact LeO.none _
      | refine LeO.ite ?_ ?_
      | refine LeO.bind ?_ (fun _ => ?_)
def spec_RedHatParse.T10 : Bool × List (List Nat × List Nat) := (true, [([], []), ([], []), ([0, 1], [0, 1]), ([], []), ([], []), ([3, 4], [3, 4]), ([0, 1, 2], []), ([6, 2, 0, 1, 2], [2, 6]), ([0, 1, 2, 3, 4, 5, 6, 7], []), ([8, 5, 7, 0, 1, 2, 3, 4, 5, 6, 7], [5, 8])])
def spec_RedHatParse.B10 : List Nat := [0, 0, 3, 0, 0, 24, 7, 71, 255, 511]
theorem spec_RedHatParse.tab10 : rtab .any (opsOf Tryd.f12 10) = spec_RedHatParse.T10 := by kernel_rfl
theorem spec_RedHatParse.bits10 : waitsOk spec_RedHatParse.T10.2 spec_RedHatParse.B10 = true := by kernel_rfl
set_option maxHeartbeats 8000000 in
set_option maxRecDepth 100000 in
theorem spec_RedHatParse.calls (k : Nat) (a0 : ByteArray) (r1 : ByteArray) (r2 : ByteArray) (r3 : ByteArray) (w : World) (h : spec_RedHatParse.f k a0 = some (r1, r2, r3)) :
    Calls Tryd.prog 12 #[.string a0] w fun e w' => e = .returned (.agg #[.string r1, .string r2, .string r3]) ∧ Below w.heap.size w w' := by
  have hu37 := Tryd.underlying37
  have HB := Aside0.mk (Below.refl w.heap.size w)
  have H : ((spec_indexOf.f k a0 58).bind fun t106 => (if t106 ≥ 0 then (if t106 = 0 then (spec_RedHatParse.j0 k a0 t106 true (⟨#[48]⟩ : ByteArray) (⟨#[]⟩ : ByteArray) (⟨#[]⟩ : ByteArray)) else (if 0 ≤ t106 then (if t106 ≤ (a0.size : Int) then ((spec_allDigits.f k (a0.extract 0 (t106 : Int).toNat)).bind fun t107 => (spec_RedHatParse.j0 k a0 t106 t107 (⟨#[48]⟩ : ByteArray) (⟨#[]⟩ : ByteArray) (⟨#[]⟩ : ByteArray))) else (none)) else (none))) else (spec_RedHatParse.j0 k a0 t106 false (⟨#[48]⟩ : ByteArray) (⟨#[]⟩ : ByteArray) (⟨#[]⟩ : ByteArray)))) = some (r1, r2, r3) := h
  clear h
  replace H := Option.bind_eq_some_iff.mp H
  obtain ⟨t106, A20, H⟩ := H
  replace H : (if t106 ≥ 0 then (if t106 = 0 then (spec_RedHatParse.j0 k a0 t106 true (⟨#[48]⟩ : ByteArray) (⟨#[]⟩ : ByteArray) (⟨#[]⟩ : ByteArray)) else (if 0 ≤ t106 then (if t106 ≤ (a0.size : Int) then ((spec_allDigits.f k (a0.extract 0 (t106 : Int).toNat)).bind fun t107 => (spec_RedHatParse.j0 k a0 t106 t107 (⟨#[48]⟩ : ByteArray) (⟨#[]⟩ : ByteArray) (⟨#[]⟩ : ByteArray))) else (none)) else (none))) else (spec_RedHatParse.j0 k a0 t106 false (⟨#[48]⟩ : ByteArray) (⟨#[]⟩ : ByteArray) (⟨#[]⟩ : ByteArray))) = some (r1, r2, r3) := H
  have A2 := Aside0.mk A20
  clear A20
  have HC3 := Aside0.mk H
  clear H
  go_enter Tryd.func12, Tryd.ntmps12
  go_upto_region 3 with (first | ((with_reducible refine gate_dst (N := 2) rfl ?_); refine box_event ?hg (N := 2) ?hd (cs := #[.string (⟨#[]⟩ : ByteArray), .string (⟨#[]⟩ : ByteArray), .string (⟨#[]⟩ : ByteArray)]) (t := 37) ?hr ?_; (case hd => rfl); (case hg => rfl); (case hr => first | (go_simp; done) | (go_simp; rfl)); intro gb104 hg w4 hbox hb; have n0_ := Aside0.mk (below_step (by repeat (first | (with_reducible first | exact HB.out | apply below_alloc | apply pw_below_drewN | apply below_drew1) | exact HB.out)) hb); have n1_ := Aside0.mk (hbox); have n2_ := Aside0.mk ((by rw [hg]; exact (below_size (by repeat (first | (with_reducible first | exact HB.out | apply below_alloc | apply pw_below_drewN | apply below_drew1) | exact HB.out))) : w.heap.size ≤ gb104)); have n3_ := Aside0.mk ((by rw [hg]; exact (below_size (by repeat (first | (with_reducible first | exact HB.out | apply below_alloc | apply pw_below_drewN | apply below_drew1) | exact HB.out))) : w.heap.size ≤ gb104)); clear HB; have HB := n0_; have BK104 := n1_; have GW104 := n2_; have GE104 := n3_; clear n0_ n1_ n2_ n3_; clear hb hbox hg) | ((with_reducible refine gate_dst (N := 3) rfl ?_); refine box_event ?hg (N := 3) ?hd (cs := #[.string (⟨#[]⟩ : ByteArray), .string (⟨#[]⟩ : ByteArray), .string (⟨#[]⟩ : ByteArray)]) (t := 37) ?hr ?_; (case hd => rfl); (case hg => rfl); (case hr => first | (go_simp; done) | (go_simp; rfl)); intro gb105 hg w5 hbox hb; have n0_ := Aside0.mk (blk_below (g := gb104) (o := .cells #[.string (⟨#[]⟩ : ByteArray), .string (⟨#[]⟩ : ByteArray), .string (⟨#[]⟩ : ByteArray)] 37 (0, 0)) (by (with_reducible repeat (first | refine blk_drewN ?_ _ | refine blk_drew ?_ | refine blk_alloc ?_ _)); exact BK104.out) hb); have n1_ := Aside0.mk (below_step (by repeat (first | (with_reducible first | exact HB.out | apply below_alloc | apply pw_below_drewN | apply below_drew1 | refine below_set ?_ GE104.out) | exact HB.out)) hb); have n2_ := Aside0.mk (hbox); have n3_ := Aside0.mk ((by rw [hg]; exact (below_size (by repeat (first | (with_reducible first | exact HB.out | apply below_alloc | apply pw_below_drewN | apply below_drew1 | refine below_set ?_ GE104.out) | exact HB.out))) : w.heap.size ≤ gb105)); have n4_ := Aside0.mk ((by rw [hg]; exact (below_size (by repeat (first | (with_reducible first | exact HB.out | apply below_alloc | apply pw_below_drewN | apply below_drew1 | refine below_set ?_ GE104.out) | exact HB.out))) : w.heap.size ≤ gb105)); have n5_ := Aside0.mk ((by rw [hg]; exact Nat.ne_of_lt (blk_lt (g := gb104) (o := .cells #[.string (⟨#[]⟩ : ByteArray), .string (⟨#[]⟩ : ByteArray), .string (⟨#[]⟩ : ByteArray)] 37 (0, 0)) (by (with_reducible repeat (first | refine blk_drewN ?_ _ | refine blk_drew ?_ | refine blk_alloc ?_ _)); exact BK104.out)) : gb104 ≠ gb105)); have n6_ := Aside0.mk ((by rw [hg]; exact Nat.ne_of_gt (blk_lt (g := gb104) (o := .cells #[.string (⟨#[]⟩ : ByteArray), .string (⟨#[]⟩ : ByteArray), .string (⟨#[]⟩ : ByteArray)] 37 (0, 0)) (by (with_reducible repeat (first | refine blk_drewN ?_ _ | refine blk_drew ?_ | refine blk_alloc ?_ _)); exact BK104.out)) : gb105 ≠ gb104)); clear BK104; clear HB; have BK104 := n0_; have HB := n1_; have BK105 := n2_; have GW105 := n3_; have GE105 := n4_; have NB104_105 := n5_; have NB105_104 := n6_; clear n0_ n1_ n2_ n3_ n4_ n5_ n6_; clear hb hbox hg; have hnb6 := NB105_104.out; have hnc6 := NB104_105.out; have hcz7_0 : w5.cell? ⟨gb105, 0, none⟩ = some (.string (⟨#[]⟩ : ByteArray)) := (blk_cell BK105.out 0).trans rfl; have hcz7_1 : w5.cell? ⟨gb105, 1, none⟩ = some (.string (⟨#[]⟩ : ByteArray)) := (blk_cell BK105.out 1).trans rfl; have hcz7_2 : w5.cell? ⟨gb105, 2, none⟩ = some (.string (⟨#[]⟩ : ByteArray)) := (blk_cell BK105.out 2).trans rfl; have hfz7_0 := blk_frozen BK105.out 0; have hfz7_1 := blk_frozen BK105.out 1; have hfz7_2 := blk_frozen BK105.out 2) | ((with_reducible refine gate_callee (f := 17) rfl ?_); refine goesL_ (some 8) rfl rfl Tryd.func17 (by kernel_rfl) rfl #[.string a0, .int .u8 58] rfl (by (try simp only [List.map_toArray, List.map_cons, List.map_nil]); first | done | rfl | (simp only [List.length_drop, List.length_take]; rfl)) ?_; (with_reducible refine (spec_indexOf.calls k a0 58 t106 _ A2.out).mono ?_); rintro e w' ⟨rfl, ⟨nd, rfl⟩⟩; refine ⟨_, rfl, ?_⟩))
  (try simp only [Act.put, List.setIfInBounds_toArray, List.set_cons_zero, List.set_cons_succ])
  go_cut [20] (fun v20 wc => ∃ (kq : Nat) (x20_2 : Bool), v20 = .bool x20_2 ∧ Aside0 (spec_RedHatParse.j0 kq a0 t106 x20_2 (⟨#[48]⟩ : ByteArray) (⟨#[]⟩ : ByteArray) (⟨#[]⟩ : ByteArray) = some (r1, r2, r3)) ∧ Aside0 (kq ≤ k) ∧ Aside0 (wc.heap[gb104]? = some (.cells #[.string (⟨#[]⟩ : ByteArray), .string (⟨#[]⟩ : ByteArray), .string (⟨#[]⟩ : ByteArray)] 37 (0, 0))) ∧ Aside0 (wc.heap[gb105]? = some (.cells #[.string (⟨#[48]⟩ : ByteArray), .string (⟨#[]⟩ : ByteArray), .string (⟨#[]⟩ : ByteArray)] 37 (0, 0))) ∧ Aside0 (Below w.heap.size w wc))
  case first =>
    have H := HC3.out
    clear HC3
    by_cases c8 : t106 ≥ 0
    · rw [if_pos c8] at H
      have c8b0 : decide (0 ≤ t106) = true := decide_eq_true c8
      clear c8
      (first | rw [c8b0] | (simp only [i64_w, i32_w]; rw [c8b0]) | skip)
      by_cases c9 : t106 = 0
      · rw [if_pos c9] at H
        have c9b0 : (t106 == 0) = true := beq_iff_eq.mpr c9
        have c9b1 : (t106 != 0) = false := bne_eq_false_iff_eq.mpr c9
        clear c9
        have H' := Aside0.mk H
        clear H
        go_wp2
        go_meet
        case rel => exact ⟨_, (true), (by first | rfl | (simp; done) | (simp [*]; done) | (simp [bne_nil_]; done)), H', ⟨by first | omega | exact Nat.le_refl _⟩, ⟨by (with_reducible repeat (first | refine blk_drewN ?_ _ | refine blk_drew ?_ | refine blk_alloc ?_ _)); refine blk_far ?_ NB104_105.out _; (with_reducible repeat (first | refine blk_drewN ?_ _ | refine blk_drew ?_ | refine blk_alloc ?_ _)); refine blk_far ?_ NB104_105.out _; (with_reducible repeat (first | refine blk_drewN ?_ _ | refine blk_drew ?_ | refine blk_alloc ?_ _)); refine blk_far ?_ NB104_105.out _; (with_reducible repeat (first | refine blk_drewN ?_ _ | refine blk_drew ?_ | refine blk_alloc ?_ _)); exact BK104.out⟩, ⟨by (with_reducible repeat (first | refine blk_drewN ?_ _ | refine blk_drew ?_ | refine blk_alloc ?_ _)); refine blk_put (cs := #[.string (⟨#[48]⟩ : ByteArray), .string (⟨#[]⟩ : ByteArray), .string (⟨#[]⟩ : ByteArray)]) ?_ 2 _ rfl; (with_reducible repeat (first | refine blk_drewN ?_ _ | refine blk_drew ?_ | refine blk_alloc ?_ _)); refine blk_put (cs := #[.string (⟨#[48]⟩ : ByteArray), .string (⟨#[]⟩ : ByteArray), .string (⟨#[]⟩ : ByteArray)]) ?_ 1 _ rfl; (with_reducible repeat (first | refine blk_drewN ?_ _ | refine blk_drew ?_ | refine blk_alloc ?_ _)); refine blk_put (cs := #[.string (⟨#[]⟩ : ByteArray), .string (⟨#[]⟩ : ByteArray), .string (⟨#[]⟩ : ByteArray)]) ?_ 0 _ rfl; (with_reducible repeat (first | refine blk_drewN ?_ _ | refine blk_drew ?_ | refine blk_alloc ?_ _)); exact BK105.out⟩, ⟨by repeat (first | (with_reducible first | exact HB.out | apply below_alloc | apply pw_below_drewN | apply below_drew1 | refine below_set ?_ GE104.out | refine below_set ?_ GE105.out) | exact HB.out)⟩⟩
      · rw [if_neg c9] at H
        have c9b0 : (t106 == 0) = false := beq_eq_false_iff_ne.mpr c9
        have c9b1 : (t106 != 0) = true := bne_iff_ne.mpr c9
        by_cases c10 : 0 ≤ t106
        · rw [if_pos c10] at H
          have c10b0 := eq_true c10
          have c10b1 : decide (0 ≤ t106) = true := decide_eq_true c10
          clear c10
          by_cases c11 : t106 ≤ (a0.size : Int)
          · rw [if_pos c11] at H
            have c11b0 := eq_true c11
            have c11b1 : decide (t106 ≤ (a0.size : Int)) = true := decide_eq_true c11
            clear c11
            replace H := Option.bind_eq_some_iff.mp H
            obtain ⟨t107, A120, H⟩ := H
            replace H : (spec_RedHatParse.j0 k a0 t106 t107 (⟨#[48]⟩ : ByteArray) (⟨#[]⟩ : ByteArray) (⟨#[]⟩ : ByteArray)) = some (r1, r2, r3) := H
            have A12 := Aside0.mk A120
            clear A120
            have H' := Aside0.mk H
            clear H
            go_wp2_with (first | (go_at_call 18; (with_reducible refine (spec_allDigits.calls k (a0.extract 0 (t106 : Int).toNat) t107 _ A12.out).mono ?_); rintro e w' ⟨rfl, ⟨nd, rfl⟩⟩))
            go_meet
            case rel => exact ⟨_, (t107), (by first | rfl | (simp; done) | (simp [*]; done) | (simp [bne_nil_]; done)), H', ⟨by first | omega | exact Nat.le_refl _⟩, ⟨by (with_reducible repeat (first | refine blk_drewN ?_ _ | refine blk_drew ?_ | refine blk_alloc ?_ _)); refine blk_far ?_ NB104_105.out _; (with_reducible repeat (first | refine blk_drewN ?_ _ | refine blk_drew ?_ | refine blk_alloc ?_ _)); refine blk_far ?_ NB104_105.out _; (with_reducible repeat (first | refine blk_drewN ?_ _ | refine blk_drew ?_ | refine blk_alloc ?_ _)); refine blk_far ?_ NB104_105.out _; (with_reducible repeat (first | refine blk_drewN ?_ _ | refine blk_drew ?_ | refine blk_alloc ?_ _)); exact BK104.out⟩, ⟨by (with_reducible repeat (first | refine blk_drewN ?_ _ | refine blk_drew ?_ | refine blk_alloc ?_ _)); refine blk_put (cs := #[.string (⟨#[48]⟩ : ByteArray), .string (⟨#[]⟩ : ByteArray), .string (⟨#[]⟩ : ByteArray)]) ?_ 2 _ rfl; (with_reducible repeat (first | refine blk_drewN ?_ _ | refine blk_drew ?_ | refine blk_alloc ?_ _)); refine blk_put (cs := #[.string (⟨#[48]⟩ : ByteArray), .string (⟨#[]⟩ : ByteArray), .string (⟨#[]⟩ : ByteArray)]) ?_ 1 _ rfl; (with_reducible repeat (first | refine blk_drewN ?_ _ | refine blk_drew ?_ | refine blk_alloc ?_ _)); refine blk_put (cs := #[.string (⟨#[]⟩ : ByteArray), .string (⟨#[]⟩ : ByteArray), .string (⟨#[]⟩ : ByteArray)]) ?_ 0 _ rfl; (with_reducible repeat (first | refine blk_drewN ?_ _ | refine blk_drew ?_ | refine blk_alloc ?_ _)); exact BK105.out⟩, ⟨by repeat (first | (with_reducible first | exact HB.out | apply below_alloc | apply pw_below_drewN | apply below_drew1 | refine below_set ?_ GE104.out | refine below_set ?_ GE105.out) | exact HB.out)⟩⟩
          · rw [if_neg c11] at H
            exact absurd H (by simp)
        · rw [if_neg c10] at H
          exact absurd H (by simp)
    · rw [if_neg c8] at H
      have c8b0 : decide (0 ≤ t106) = false := decide_eq_false c8
      clear c8
      (first | rw [c8b0] | (simp only [i64_w, i32_w]; rw [c8b0]) | skip)
      have H' := Aside0.mk H
      clear H
      go_wp2
      go_meet
      case rel => exact ⟨_, (false), (by first | rfl | (simp; done) | (simp [*]; done) | (simp [bne_nil_]; done)), H', ⟨by first | omega | exact Nat.le_refl _⟩, ⟨by (with_reducible repeat (first | refine blk_drewN ?_ _ | refine blk_drew ?_ | refine blk_alloc ?_ _)); refine blk_far ?_ NB104_105.out _; (with_reducible repeat (first | refine blk_drewN ?_ _ | refine blk_drew ?_ | refine blk_alloc ?_ _)); refine blk_far ?_ NB104_105.out _; (with_reducible repeat (first | refine blk_drewN ?_ _ | refine blk_drew ?_ | refine blk_alloc ?_ _)); refine blk_far ?_ NB104_105.out _; (with_reducible repeat (first | refine blk_drewN ?_ _ | refine blk_drew ?_ | refine blk_alloc ?_ _)); exact BK104.out⟩, ⟨by (with_reducible repeat (first | refine blk_drewN ?_ _ | refine blk_drew ?_ | refine blk_alloc ?_ _)); refine blk_put (cs := #[.string (⟨#[48]⟩ : ByteArray), .string (⟨#[]⟩ : ByteArray), .string (⟨#[]⟩ : ByteArray)]) ?_ 2 _ rfl; (with_reducible repeat (first | refine blk_drewN ?_ _ | refine blk_drew ?_ | refine blk_alloc ?_ _)); refine blk_put (cs := #[.string (⟨#[48]⟩ : ByteArray), .string (⟨#[]⟩ : ByteArray), .string (⟨#[]⟩ : ByteArray)]) ?_ 1 _ rfl; (with_reducible repeat (first | refine blk_drewN ?_ _ | refine blk_drew ?_ | refine blk_alloc ?_ _)); refine blk_put (cs := #[.string (⟨#[]⟩ : ByteArray), .string (⟨#[]⟩ : ByteArray), .string (⟨#[]⟩ : ByteArray)]) ?_ 0 _ rfl; (with_reducible repeat (first | refine blk_drewN ?_ _ | refine blk_drew ?_ | refine blk_alloc ?_ _)); exact BK105.out⟩, ⟨by repeat (first | (with_reducible first | exact HB.out | apply below_alloc | apply pw_below_drewN | apply below_drew1 | refine below_set ?_ GE104.out | refine below_set ?_ GE105.out) | exact HB.out)⟩⟩
  case rest =>
    clear HC3
    try clear c1
    try clear p2
    try clear c6
    try clear c8
    try clear c8b0
    try clear c9
    try clear c9b0
    try clear c9b1
    try clear c10
    try clear c10b0
    try clear c10b1
    try clear c11
    try clear c11b0
    try clear c11b1
    try clear c12
    try clear hcz7_0
    try clear hcz7_1
    try clear hcz7_2
    try clear hfz7_0
    try clear hfz7_1
    try clear hfz7_2
    obtain ⟨kq, x20_2, rfl, HA, HJ2, BK104, BK105, HB⟩ := hcut
    cases kq with
    | zero => exact absurd HA.out (by simp [spec_RedHatParse.j0])
    | succ kj2 =>
      have H := HA.out
      clear HA
      simp only [spec_RedHatParse.j0] at H
      by_cases c13 : x20_2 = true
      · subst c13
        have H1 : (if t106 > 0 then (if 0 ≤ t106 then (if t106 ≤ (a0.size : Int) then (if 0 ≤ (wrap64 (t106 + 1)) then (if (wrap64 (t106 + 1)) ≤ (a0.size : Int) then ((spec_indexOf.f kj2 (a0.extract ((wrap64 (t106 + 1)) : Int).toNat a0.size) 45).bind fun t108 => (if t108 ≥ 0 then (if 0 ≤ t108 then (if t108 ≤ ((a0.extract ((wrap64 (t106 + 1)) : Int).toNat a0.size).size : Int) then (some (a0.extract 0 (t106 : Int).toNat, (a0.extract ((wrap64 (t106 + 1)) : Int).toNat a0.size).extract 0 (t108 : Int).toNat, (a0.extract ((wrap64 (t106 + 1)) : Int).toNat a0.size).extract (t108 : Int).toNat (a0.size - ((wrap64 (t106 + 1)) : Int).toNat))) else (none)) else (none)) else (some (a0.extract 0 (t106 : Int).toNat, a0.extract ((wrap64 (t106 + 1)) : Int).toNat a0.size, (⟨#[]⟩ : ByteArray))))) else (none)) else (none)) else (none)) else (none)) else (if 0 ≤ (wrap64 (t106 + 1)) then (if (wrap64 (t106 + 1)) ≤ (a0.size : Int) then ((spec_indexOf.f kj2 (a0.extract ((wrap64 (t106 + 1)) : Int).toNat a0.size) 45).bind fun t109 => (if t109 ≥ 0 then (if 0 ≤ t109 then (if t109 ≤ ((a0.extract ((wrap64 (t106 + 1)) : Int).toNat a0.size).size : Int) then (some ((⟨#[48]⟩ : ByteArray), (a0.extract ((wrap64 (t106 + 1)) : Int).toNat a0.size).extract 0 (t109 : Int).toNat, (a0.extract ((wrap64 (t106 + 1)) : Int).toNat a0.size).extract (t109 : Int).toNat (a0.size - ((wrap64 (t106 + 1)) : Int).toNat))) else (none)) else (none)) else (some ((⟨#[48]⟩ : ByteArray), a0.extract ((wrap64 (t106 + 1)) : Int).toNat a0.size, (⟨#[]⟩ : ByteArray))))) else (none)) else (none))) = some (r1, r2, r3) := by rw [if_pos rfl] at H; exact H
        clear H
        have H := H1
        clear H1
        by_cases c14 : t106 > 0
        · rw [if_pos c14] at H
          have c14b0 : decide (0 < t106) = true := decide_eq_true c14
          clear c14
          by_cases c15 : 0 ≤ t106
          · rw [if_pos c15] at H
            have c15b0 := eq_true c15
            have c15b1 : decide (0 ≤ t106) = true := decide_eq_true c15
            clear c15
            by_cases c16 : t106 ≤ (a0.size : Int)
            · rw [if_pos c16] at H
              have c16b0 := eq_true c16
              have c16b1 : decide (t106 ≤ (a0.size : Int)) = true := decide_eq_true c16
              clear c16
              obtain ⟨ji17, hji17⟩ : ∃ j_ : Int, (wrap64 (t106 + 1)) = j_ := ⟨_, rfl⟩
              replace H : (if 0 ≤ (ji17) then (if (ji17) ≤ (a0.size : Int) then ((spec_indexOf.f kj2 (a0.extract ((ji17) : Int).toNat a0.size) 45).bind fun t108 => (if t108 ≥ 0 then (if 0 ≤ t108 then (if t108 ≤ ((a0.extract ((ji17) : Int).toNat a0.size).size : Int) then (some (a0.extract 0 (t106 : Int).toNat, (a0.extract ((ji17) : Int).toNat a0.size).extract 0 (t108 : Int).toNat, (a0.extract ((ji17) : Int).toNat a0.size).extract (t108 : Int).toNat (a0.size - ((ji17) : Int).toNat))) else (none)) else (none)) else (some (a0.extract 0 (t106 : Int).toNat, a0.extract ((ji17) : Int).toNat a0.size, (⟨#[]⟩ : ByteArray))))) else (none)) else (none)) = some (r1, r2, r3) := by first | (rw [hji17] at H; exact H) | (simp only [hji17] at H ⊢; exact H)
              have hji17w : (IntKind.i64.wrap (t106 + 1)) = ji17 := (i64_w _).trans hji17
              by_cases c18 : 0 ≤ (ji17)
              · rw [if_pos c18] at H
                have c18b0 := eq_true c18
                have c18b1 : decide (0 ≤ (ji17)) = true := decide_eq_true c18
                clear c18
                by_cases c19 : (ji17) ≤ (a0.size : Int)
                · rw [if_pos c19] at H
                  have c19b0 := eq_true c19
                  have c19b1 : decide ((ji17) ≤ (a0.size : Int)) = true := decide_eq_true c19
                  clear c19
                  replace H := Option.bind_eq_some_iff.mp H
                  obtain ⟨t108, A200, H⟩ := H
                  replace H : (if t108 ≥ 0 then (if 0 ≤ t108 then (if t108 ≤ ((a0.extract ((ji17) : Int).toNat a0.size).size : Int) then (some (a0.extract 0 (t106 : Int).toNat, (a0.extract ((ji17) : Int).toNat a0.size).extract 0 (t108 : Int).toNat, (a0.extract ((ji17) : Int).toNat a0.size).extract (t108 : Int).toNat (a0.size - ((ji17) : Int).toNat))) else (none)) else (none)) else (some (a0.extract 0 (t106 : Int).toNat, a0.extract ((ji17) : Int).toNat a0.size, (⟨#[]⟩ : ByteArray)))) = some (r1, r2, r3) := H
                  have A20 := Aside0.mk A200
                  clear A200
                  by_cases c21 : t108 ≥ 0
                  · rw [if_pos c21] at H
                    have c21b0 : decide (0 ≤ t108) = true := decide_eq_true c21
                    clear c21
                    by_cases c22 : 0 ≤ t108
                    · rw [if_pos c22] at H
                      have c22b0 := eq_true c22
                      have c22b1 : decide (0 ≤ t108) = true := decide_eq_true c22
                      clear c22
                      by_cases c23 : t108 ≤ ((a0.extract ((ji17) : Int).toNat a0.size).size : Int)
                      · rw [if_pos c23] at H
                        have c23b0 := eq_true c23
                        have c23b1 : decide (t108 ≤ ((a0.extract ((ji17) : Int).toNat a0.size).size : Int)) = true := decide_eq_true c23
                        (try (have c23bz := c23; simp only [ByteArray.size_extract, Nat.min_self] at c23bz; replace c23bz := eq_true c23bz))
                        clear c23
                        have c24b0 := eq_true (of_decide_eq_true (by first | (with_reducible assumption) | assumption) : 0 ≤ t108)
                        have c25b0 := eq_true (of_decide_eq_true (by first | (with_reducible assumption) | assumption) : t108 ≤ ((a0.extract ((ji17) : Int).toNat a0.size).size : Int))
                        simp only [Option.some.injEq, Prod.mk.injEq] at H
                        obtain ⟨rfl, rfl, rfl⟩ := H
                        have hnb26 := NB105_104.out
                        have hnc26 := NB104_105.out
                        have hcz27_0 : wc.cell? ⟨gb105, 0, none⟩ = some (.string (⟨#[48]⟩ : ByteArray)) := (blk_cell BK105.out 0).trans rfl
                        have hcz27_1 : wc.cell? ⟨gb105, 1, none⟩ = some (.string (⟨#[]⟩ : ByteArray)) := (blk_cell BK105.out 1).trans rfl
                        have hcz27_2 : wc.cell? ⟨gb105, 2, none⟩ = some (.string (⟨#[]⟩ : ByteArray)) := (blk_cell BK105.out 2).trans rfl
                        have hfz27_0 := blk_frozen BK105.out 0
                        have hfz27_1 := blk_frozen BK105.out 1
                        have hfz27_2 := blk_frozen BK105.out 2
                        try go_wp2_with (first | ((with_reducible refine gate_callee (f := 17) rfl ?_); refine goesL_ (some 34) rfl rfl Tryd.func17 (by kernel_rfl) rfl #[.string (a0.extract ((ji17) : Int).toNat a0.size), .int .u8 45] rfl (by (try simp only [List.map_toArray, List.map_cons, List.map_nil]); first | done | (simp only [hji17]; rfl) | rfl | (simp only [List.length_drop, List.length_take]; rfl)) ?_; (with_reducible refine (spec_indexOf.calls kj2 (a0.extract ((ji17) : Int).toNat a0.size) 45 t108 _ A20.out).mono ?_); rintro e w' ⟨rfl, ⟨nd, rfl⟩⟩; refine ⟨_, rfl, ?_⟩))
                        have n0_ : Aside0 (((wc.setCell ⟨gb105, 0, none⟩ (.string (a0.extract 0 (t106 : Int).toNat))).setCell ⟨gb105, 1, none⟩ (.string (a0.extract ((ji17) : Int).toNat a0.size))).heap[gb104]? = some (.cells #[.string (⟨#[]⟩ : ByteArray), .string (⟨#[]⟩ : ByteArray), .string (⟨#[]⟩ : ByteArray)] 37 (0, 0))) := ⟨by (with_reducible repeat (first | refine blk_drewN ?_ _ | refine blk_drew ?_ | refine blk_alloc ?_ _)); refine blk_far ?_ NB104_105.out _; (with_reducible repeat (first | refine blk_drewN ?_ _ | refine blk_drew ?_ | refine blk_alloc ?_ _)); refine blk_far ?_ NB104_105.out _; (with_reducible repeat (first | refine blk_drewN ?_ _ | refine blk_drew ?_ | refine blk_alloc ?_ _)); exact BK104.out⟩
                        have n1_ : Aside0 (((wc.setCell ⟨gb105, 0, none⟩ (.string (a0.extract 0 (t106 : Int).toNat))).setCell ⟨gb105, 1, none⟩ (.string (a0.extract ((ji17) : Int).toNat a0.size))).heap[gb105]? = some (.cells #[.string (a0.extract 0 (t106 : Int).toNat), .string (a0.extract ((ji17) : Int).toNat a0.size), .string (⟨#[]⟩ : ByteArray)] 37 (0, 0))) := ⟨by (with_reducible repeat (first | refine blk_drewN ?_ _ | refine blk_drew ?_ | refine blk_alloc ?_ _)); refine blk_put (cs := #[.string (a0.extract 0 (t106 : Int).toNat), .string (⟨#[]⟩ : ByteArray), .string (⟨#[]⟩ : ByteArray)]) ?_ 1 _ rfl; (with_reducible repeat (first | refine blk_drewN ?_ _ | refine blk_drew ?_ | refine blk_alloc ?_ _)); refine blk_put (cs := #[.string (⟨#[48]⟩ : ByteArray), .string (⟨#[]⟩ : ByteArray), .string (⟨#[]⟩ : ByteArray)]) ?_ 0 _ rfl; (with_reducible repeat (first | refine blk_drewN ?_ _ | refine blk_drew ?_ | refine blk_alloc ?_ _)); exact BK105.out⟩
                        have n2_ : Aside0 (Below w.heap.size w ((wc.setCell ⟨gb105, 0, none⟩ (.string (a0.extract 0 (t106 : Int).toNat))).setCell ⟨gb105, 1, none⟩ (.string (a0.extract ((ji17) : Int).toNat a0.size)))) := ⟨by repeat (first | (with_reducible first | exact HB.out | apply below_alloc | apply pw_below_drewN | apply below_drew1 | refine below_set ?_ GE104.out | refine below_set ?_ GE105.out) | exact HB.out)⟩
                        (try clear BK104)
                        (try clear BK105)
                        (try clear HB)
                        generalize ((wc.setCell ⟨gb105, 0, none⟩ (.string (a0.extract 0 (t106 : Int).toNat))).setCell ⟨gb105, 1, none⟩ (.string (a0.extract ((ji17) : Int).toNat a0.size))) = w28 at n0_ n1_ n2_ ⊢
                        have BK104 := n0_
                        have BK105 := n1_
                        have HB := n2_
                        clear n0_ n1_ n2_
                        (try (rw [drewN_self w28]; generalize hq_ : World.drewN w28 _ = w28; have n0_ : Aside0 (w28.heap[gb104]? = some (.cells #[.string (⟨#[]⟩ : ByteArray), .string (⟨#[]⟩ : ByteArray), .string (⟨#[]⟩ : ByteArray)] 37 (0, 0))) := ⟨by rw [← hq_]; exact (by (with_reducible repeat (first | refine blk_drewN ?_ _ | refine blk_drew ?_ | refine blk_alloc ?_ _)); exact BK104.out)⟩; have n1_ : Aside0 (w28.heap[gb105]? = some (.cells #[.string (a0.extract 0 (t106 : Int).toNat), .string (a0.extract ((ji17) : Int).toNat a0.size), .string (⟨#[]⟩ : ByteArray)] 37 (0, 0))) := ⟨by rw [← hq_]; exact (by (with_reducible repeat (first | refine blk_drewN ?_ _ | refine blk_drew ?_ | refine blk_alloc ?_ _)); exact BK105.out)⟩; have n2_ : Aside0 (Below w.heap.size w w28) := ⟨by rw [← hq_]; exact (by repeat (first | (with_reducible first | exact HB.out | apply below_alloc | apply pw_below_drewN | apply below_drew1 | refine below_set ?_ GE104.out | refine below_set ?_ GE105.out) | exact HB.out))⟩; clear BK104 BK105 HB hq_; have BK104 := n0_; have BK105 := n1_; have HB := n2_; clear n0_ n1_ n2_))
                        have n0_ := Aside0.mk (blk_drew BK104.out)
                        have n1_ := Aside0.mk (blk_drew BK105.out)
                        have n2_ := Aside0.mk (below_drew1 HB.out)
                        clear BK104
                        clear BK105
                        clear HB
                        have BK104 := n0_
                        have BK105 := n1_
                        have HB := n2_
                        clear n0_ n1_ n2_
                        refine start_ (n := 10) (S := fun w' => True) (ds := []) #[false, false, false, false, false, false, false, false, false, false] (by kernel_rfl) rfl rfl trivial (fun hHeld => ?_); refine with_tabW spec_RedHatParse.tab10 spec_RedHatParse.bits10 (fun HT_ HW_ => ?_)
                        generalize w28.drew = w29 at BK104 BK105 HB hHeld ⊢
                        refine pure_ (i := 0) (N := some 37) (v := ?_) (a' := ?_) #[true, false, false, false, false, false, false, false, false, false] rfl rfl (any_of HT_.out (by kernel_rfl)) (fun _ _ _ h => h) (Or.inl ⟨by rfl, ?_⟩) ?_ ?_
                        rotate_left
                        · intro w'
                          go_simp
                          with_reducible rfl
                        rotate_left
                        · simp only [Act.put, List.setIfInBounds_toArray, List.set_cons_zero, List.set_cons_succ, i64_w, i32_w]
                          rfl
                        refine pure_ (i := 1) (N := some 38) (v := ?_) (a' := ?_) #[true, true, false, false, false, false, false, false, false, false] rfl rfl (any_of HT_.out (by kernel_rfl)) (fun _ _ _ h => h) (Or.inl ⟨by rfl, ?_⟩) ?_ ?_
                        rotate_left
                        · intro w'
                          go_simp
                          with_reducible rfl
                        rotate_left
                        · simp only [Act.put, List.setIfInBounds_toArray, List.set_cons_zero, List.set_cons_succ, i64_w, i32_w]
                          rfl
                        refine pure_ (i := 2) (N := some 39) (v := ?_) (a' := ?_) #[true, true, true, false, false, false, false, false, false, false] rfl rfl (any_of HT_.out (by kernel_rfl)) (fun _ _ _ h => h) (Or.inl ⟨by rfl, ?_⟩) ?_ ?_
                        rotate_left
                        · intro w'
                          go_simp
                          with_reducible rfl
                        rotate_left
                        · simp only [Act.put, List.setIfInBounds_toArray, List.set_cons_zero, List.set_cons_succ, i64_w, i32_w]
                          rfl
                        refine pure_ (i := 3) (N := some 40) (v := ?_) (a' := ?_) #[true, true, true, true, false, false, false, false, false, false] rfl rfl (any_of HT_.out (by kernel_rfl)) (fun _ _ _ h => h) (Or.inl ⟨by rfl, ?_⟩) ?_ ?_
                        rotate_left
                        · intro w'
                          go_simp
                          with_reducible rfl
                        rotate_left
                        · simp only [Act.put, List.setIfInBounds_toArray, List.set_cons_zero, List.set_cons_succ, i64_w, i32_w]
                          rfl
                        refine pure_ (i := 4) (N := some 41) (v := ?_) (a' := ?_) #[true, true, true, true, true, false, false, false, false, false] rfl rfl (any_of HT_.out (by kernel_rfl)) (fun _ _ _ h => h) (Or.inl ⟨by rfl, ?_⟩) ?_ ?_
                        rotate_left
                        · intro w'
                          go_simp
                          with_reducible rfl
                        rotate_left
                        · simp only [Act.put, List.setIfInBounds_toArray, List.set_cons_zero, List.set_cons_succ, i64_w, i32_w]
                          rfl
                        refine pure_ (i := 5) (N := some 42) (v := ?_) (a' := ?_) #[true, true, true, true, true, true, false, false, false, false] rfl rfl (any_of HT_.out (by kernel_rfl)) (fun _ _ _ h => h) (Or.inl ⟨by rfl, ?_⟩) ?_ ?_
                        rotate_left
                        · intro w'
                          go_simp
                          with_reducible rfl
                        rotate_left
                        · simp only [Act.put, List.setIfInBounds_toArray, List.set_cons_zero, List.set_cons_succ, i64_w, i32_w]
                          rfl
                        refine pure_ (i := 6) (N := some 43) (v := ?_) (a' := ?_) #[true, true, true, true, true, true, true, false, false, false] rfl rfl (any_of HT_.out (by kernel_rfl)) (fun _ _ _ h => h) (Or.inl ⟨by rfl, ?_⟩) ?_ ?_
                        rotate_left
                        · intro w'
                          go_simp
                          with_reducible rfl
                        rotate_left
                        · simp only [Act.put, List.setIfInBounds_toArray, List.set_cons_zero, List.set_cons_succ, i64_w, i32_w]
                          rfl
                        refine one_ (i := 7) (N := none) #[true, true, true, true, true, true, true, true, false, false] rfl rfl (one_of HT_.out (by kernel_rfl)) (by decide) (fun K hK => ?_)
                        have hs30 : w29.cell? ⟨gb105, 1, none⟩ = some (.string (a0.extract ((ji17) : Int).toNat a0.size)) := (blk_cell BK105.out 1).trans rfl
                        have hfs30 := blk_frozen BK105.out 1
                        have hns30_0 := NB104_105.out
                        have hms30_0 := NB105_104.out
                        refine skip_ (w1 := ?_) (by rfl) rfl ?_ ?_
                        rotate_left
                        · go_simp
                          rfl
                        refine hK.out _ _ trivial (fun hHeld => ?_)
                        clear hK K
                        refine pure_ (i := 8) (N := some 44) (v := ?_) (a' := ?_) #[true, true, true, true, true, true, true, true, true, false] rfl rfl (any_of HT_.out (by kernel_rfl)) (fun _ _ _ h => h) (Or.inl ⟨by rfl, ?_⟩) ?_ ?_
                        rotate_left
                        · intro w'
                          go_simp
                          with_reducible rfl
                        rotate_left
                        · simp only [Act.put, List.setIfInBounds_toArray, List.set_cons_zero, List.set_cons_succ, i64_w, i32_w]
                          rfl
                        refine one_ (i := 9) (N := none) #[true, true, true, true, true, true, true, true, true, true] rfl rfl (one_of HT_.out (by kernel_rfl)) (by decide) (fun K hK => ?_)
                        have hs31 : w29.cell? ⟨gb105, 2, none⟩ = some (.string (⟨#[]⟩ : ByteArray)) := (blk_cell BK105.out 2).trans rfl
                        have hfs31 := blk_frozen BK105.out 2
                        have hns31_0 := NB104_105.out
                        have hms31_0 := NB105_104.out
                        refine skip_ (w1 := ?_) (by rfl) rfl ?_ ?_
                        rotate_left
                        · go_simp
                          rfl
                        refine hK.out _ _ trivial (fun hHeld => ?_)
                        clear hK K
                        refine done_ (done_of HT_.out (by kernel_rfl)) ?_
                        have hcz32_0 : w29.cell? ⟨gb105, 0, none⟩ = some (.string (a0.extract 0 (t106 : Int).toNat)) := (blk_cell BK105.out 0).trans rfl
                        have hcz32_1 : w29.cell? ⟨gb105, 1, none⟩ = some (.string (a0.extract ((ji17) : Int).toNat a0.size)) := (blk_cell BK105.out 1).trans rfl
                        have hcz32_2 : w29.cell? ⟨gb105, 2, none⟩ = some (.string (⟨#[]⟩ : ByteArray)) := (blk_cell BK105.out 2).trans rfl
                        have hfz32_0 := blk_frozen BK105.out 0
                        have hfz32_1 := blk_frozen BK105.out 1
                        have hfz32_2 := blk_frozen BK105.out 2
                        have hcz33_0 : w29.cell? ⟨gb104, 0, none⟩ = some (.string (⟨#[]⟩ : ByteArray)) := (blk_cell BK104.out 0).trans rfl
                        have hcz33_1 : w29.cell? ⟨gb104, 1, none⟩ = some (.string (⟨#[]⟩ : ByteArray)) := (blk_cell BK104.out 1).trans rfl
                        have hcz33_2 : w29.cell? ⟨gb104, 2, none⟩ = some (.string (⟨#[]⟩ : ByteArray)) := (blk_cell BK104.out 2).trans rfl
                        have hfz33_0 := blk_frozen BK104.out 0
                        have hfz33_1 := blk_frozen BK104.out 1
                        have hfz33_2 := blk_frozen BK104.out 2
                        try go_wp2
                        refine bodyPost_ret (results_cell_row rfl _ _ gb104 37 #[.string (a0.extract 0 (t106 : Int).toNat), .string ((a0.extract ((ji17) : Int).toNat a0.size).extract 0 (t108 : Int).toNat), .string ((a0.extract ((ji17) : Int).toNat a0.size).extract (t108 : Int).toNat (a0.size - ((ji17) : Int).toNat))] (0, 0) _ rfl (by (with_reducible repeat (first | refine blk_drewN ?_ _ | refine blk_drew ?_ | refine blk_alloc ?_ _)); refine blk_put (cs := #[.string (a0.extract 0 (t106 : Int).toNat), .string ((a0.extract ((ji17) : Int).toNat a0.size).extract 0 (t108 : Int).toNat), .string (⟨#[]⟩ : ByteArray)]) ?_ 2 _ rfl; (with_reducible repeat (first | refine blk_drewN ?_ _ | refine blk_drew ?_ | refine blk_alloc ?_ _)); refine blk_put (cs := #[.string (a0.extract 0 (t106 : Int).toNat), .string (⟨#[]⟩ : ByteArray), .string (⟨#[]⟩ : ByteArray)]) ?_ 1 _ rfl; (with_reducible repeat (first | refine blk_drewN ?_ _ | refine blk_drew ?_ | refine blk_alloc ?_ _)); refine blk_put (cs := #[.string (⟨#[]⟩ : ByteArray), .string (⟨#[]⟩ : ByteArray), .string (⟨#[]⟩ : ByteArray)]) ?_ 0 _ rfl; (with_reducible repeat (first | refine blk_drewN ?_ _ | refine blk_drew ?_ | refine blk_alloc ?_ _)); refine blk_far ?_ NB104_105.out _; (with_reducible repeat (first | refine blk_drewN ?_ _ | refine blk_drew ?_ | refine blk_alloc ?_ _)); refine blk_far ?_ NB104_105.out _; (with_reducible repeat (first | refine blk_drewN ?_ _ | refine blk_drew ?_ | refine blk_alloc ?_ _)); exact BK104.out) Tryd.underlying37 rfl (by kernel_rfl)) rfl ?_
                        exact ⟨by first | rfl | (simp [errW_none, errW_some] <;> rfl) | (simp only [← hji17]; first | rfl | (simp [errW_none, errW_some] <;> rfl)) | (simp [*, errW_none, errW_some] <;> rfl) | (simp [bne_nil_]; done), by repeat (first | (with_reducible first | exact HB.out | apply below_alloc | apply pw_below_drewN | apply below_drew1 | refine below_set ?_ GE104.out | refine below_set ?_ GE105.out) | exact HB.out)⟩
                      · rw [if_neg c23] at H
                        exact absurd H (by simp)
                    · rw [if_neg c22] at H
                      exact absurd H (by simp)
                  · rw [if_neg c21] at H
                    have c21b0 : decide (0 ≤ t108) = false := decide_eq_false c21
                    clear c21
                    simp only [Option.some.injEq, Prod.mk.injEq] at H
                    obtain ⟨rfl, rfl, rfl⟩ := H
                    have hnb34 := NB105_104.out
                    have hnc34 := NB104_105.out
                    have hcz35_0 : wc.cell? ⟨gb105, 0, none⟩ = some (.string (⟨#[48]⟩ : ByteArray)) := (blk_cell BK105.out 0).trans rfl
                    have hcz35_1 : wc.cell? ⟨gb105, 1, none⟩ = some (.string (⟨#[]⟩ : ByteArray)) := (blk_cell BK105.out 1).trans rfl
                    have hcz35_2 : wc.cell? ⟨gb105, 2, none⟩ = some (.string (⟨#[]⟩ : ByteArray)) := (blk_cell BK105.out 2).trans rfl
                    have hfz35_0 := blk_frozen BK105.out 0
                    have hfz35_1 := blk_frozen BK105.out 1
                    have hfz35_2 := blk_frozen BK105.out 2
                    go_wp2_with (first | ((with_reducible refine gate_callee (f := 17) rfl ?_); refine goesL_ (some 34) rfl rfl Tryd.func17 (by kernel_rfl) rfl #[.string (a0.extract ((ji17) : Int).toNat a0.size), .int .u8 45] rfl (by (try simp only [List.map_toArray, List.map_cons, List.map_nil]); first | done | (simp only [hji17]; rfl) | rfl | (simp only [List.length_drop, List.length_take]; rfl)) ?_; (with_reducible refine (spec_indexOf.calls kj2 (a0.extract ((ji17) : Int).toNat a0.size) 45 t108 _ A20.out).mono ?_); rintro e w' ⟨rfl, ⟨nd, rfl⟩⟩; refine ⟨_, rfl, ?_⟩; have hcz36_0 : wc.cell? ⟨gb104, 0, none⟩ = some (.string (⟨#[]⟩ : ByteArray)) := (blk_cell BK104.out 0).trans rfl; have hcz36_1 : wc.cell? ⟨gb104, 1, none⟩ = some (.string (⟨#[]⟩ : ByteArray)) := (blk_cell BK104.out 1).trans rfl; have hcz36_2 : wc.cell? ⟨gb104, 2, none⟩ = some (.string (⟨#[]⟩ : ByteArray)) := (blk_cell BK104.out 2).trans rfl; have hfz36_0 := blk_frozen BK104.out 0; have hfz36_1 := blk_frozen BK104.out 1; have hfz36_2 := blk_frozen BK104.out 2))
                    refine bodyPost_ret (results_cell_row rfl _ _ gb104 37 #[.string (a0.extract 0 (t106 : Int).toNat), .string (a0.extract ((ji17) : Int).toNat a0.size), .string (⟨#[]⟩ : ByteArray)] (0, 0) _ rfl (by (with_reducible repeat (first | refine blk_drewN ?_ _ | refine blk_drew ?_ | refine blk_alloc ?_ _)); refine blk_put (cs := #[.string (a0.extract 0 (t106 : Int).toNat), .string (a0.extract ((ji17) : Int).toNat a0.size), .string (⟨#[]⟩ : ByteArray)]) ?_ 2 _ rfl; (with_reducible repeat (first | refine blk_drewN ?_ _ | refine blk_drew ?_ | refine blk_alloc ?_ _)); refine blk_put (cs := #[.string (a0.extract 0 (t106 : Int).toNat), .string (⟨#[]⟩ : ByteArray), .string (⟨#[]⟩ : ByteArray)]) ?_ 1 _ rfl; (with_reducible repeat (first | refine blk_drewN ?_ _ | refine blk_drew ?_ | refine blk_alloc ?_ _)); refine blk_put (cs := #[.string (⟨#[]⟩ : ByteArray), .string (⟨#[]⟩ : ByteArray), .string (⟨#[]⟩ : ByteArray)]) ?_ 0 _ rfl; (with_reducible repeat (first | refine blk_drewN ?_ _ | refine blk_drew ?_ | refine blk_alloc ?_ _)); refine blk_far ?_ NB104_105.out _; (with_reducible repeat (first | refine blk_drewN ?_ _ | refine blk_drew ?_ | refine blk_alloc ?_ _)); refine blk_far ?_ NB104_105.out _; (with_reducible repeat (first | refine blk_drewN ?_ _ | refine blk_drew ?_ | refine blk_alloc ?_ _)); exact BK104.out) Tryd.underlying37 rfl (by kernel_rfl)) rfl ?_
                    exact ⟨by first | rfl | (simp [errW_none, errW_some] <;> rfl) | (simp only [← hji17]; first | rfl | (simp [errW_none, errW_some] <;> rfl)) | (simp [*, errW_none, errW_some] <;> rfl) | (simp [bne_nil_]; done), by repeat (first | (with_reducible first | exact HB.out | apply below_alloc | apply pw_below_drewN | apply below_drew1 | refine below_set ?_ GE104.out | refine below_set ?_ GE105.out) | exact HB.out)⟩
                · rw [if_neg c19] at H
                  exact absurd H (by simp)
              · rw [if_neg c18] at H
                exact absurd H (by simp)
            · rw [if_neg c16] at H
              exact absurd H (by simp)
          · rw [if_neg c15] at H
            exact absurd H (by simp)
        · rw [if_neg c14] at H
          have c14b0 : decide (0 < t106) = false := decide_eq_false c14
          clear c14
          obtain ⟨ji37, hji37⟩ : ∃ j_ : Int, (wrap64 (t106 + 1)) = j_ := ⟨_, rfl⟩
          replace H : (if 0 ≤ (ji37) then (if (ji37) ≤ (a0.size : Int) then ((spec_indexOf.f kj2 (a0.extract ((ji37) : Int).toNat a0.size) 45).bind fun t109 => (if t109 ≥ 0 then (if 0 ≤ t109 then (if t109 ≤ ((a0.extract ((ji37) : Int).toNat a0.size).size : Int) then (some ((⟨#[48]⟩ : ByteArray), (a0.extract ((ji37) : Int).toNat a0.size).extract 0 (t109 : Int).toNat, (a0.extract ((ji37) : Int).toNat a0.size).extract (t109 : Int).toNat (a0.size - ((ji37) : Int).toNat))) else (none)) else (none)) else (some ((⟨#[48]⟩ : ByteArray), a0.extract ((ji37) : Int).toNat a0.size, (⟨#[]⟩ : ByteArray))))) else (none)) else (none)) = some (r1, r2, r3) := by first | (rw [hji37] at H; exact H) | (simp only [hji37] at H ⊢; exact H)
          have hji37w : (IntKind.i64.wrap (t106 + 1)) = ji37 := (i64_w _).trans hji37
          by_cases c38 : 0 ≤ (ji37)
          · rw [if_pos c38] at H
            have c38b0 := eq_true c38
            have c38b1 : decide (0 ≤ (ji37)) = true := decide_eq_true c38
            clear c38
            by_cases c39 : (ji37) ≤ (a0.size : Int)
            · rw [if_pos c39] at H
              have c39b0 := eq_true c39
              have c39b1 : decide ((ji37) ≤ (a0.size : Int)) = true := decide_eq_true c39
              clear c39
              replace H := Option.bind_eq_some_iff.mp H
              obtain ⟨t109, A400, H⟩ := H
              replace H : (if t109 ≥ 0 then (if 0 ≤ t109 then (if t109 ≤ ((a0.extract ((ji37) : Int).toNat a0.size).size : Int) then (some ((⟨#[48]⟩ : ByteArray), (a0.extract ((ji37) : Int).toNat a0.size).extract 0 (t109 : Int).toNat, (a0.extract ((ji37) : Int).toNat a0.size).extract (t109 : Int).toNat (a0.size - ((ji37) : Int).toNat))) else (none)) else (none)) else (some ((⟨#[48]⟩ : ByteArray), a0.extract ((ji37) : Int).toNat a0.size, (⟨#[]⟩ : ByteArray)))) = some (r1, r2, r3) := H
              have A40 := Aside0.mk A400
              clear A400
              by_cases c41 : t109 ≥ 0
              · rw [if_pos c41] at H
                have c41b0 : decide (0 ≤ t109) = true := decide_eq_true c41
                clear c41
                by_cases c42 : 0 ≤ t109
                · rw [if_pos c42] at H
                  have c42b0 := eq_true c42
                  have c42b1 : decide (0 ≤ t109) = true := decide_eq_true c42
                  clear c42
                  by_cases c43 : t109 ≤ ((a0.extract ((ji37) : Int).toNat a0.size).size : Int)
                  · rw [if_pos c43] at H
                    have c43b0 := eq_true c43
                    have c43b1 : decide (t109 ≤ ((a0.extract ((ji37) : Int).toNat a0.size).size : Int)) = true := decide_eq_true c43
                    (try (have c43bz := c43; simp only [ByteArray.size_extract, Nat.min_self] at c43bz; replace c43bz := eq_true c43bz))
                    clear c43
                    have c44b0 := eq_true (of_decide_eq_true (by first | (with_reducible assumption) | assumption) : 0 ≤ t109)
                    have c45b0 := eq_true (of_decide_eq_true (by first | (with_reducible assumption) | assumption) : t109 ≤ ((a0.extract ((ji37) : Int).toNat a0.size).size : Int))
                    simp only [Option.some.injEq, Prod.mk.injEq] at H
                    obtain ⟨rfl, rfl, rfl⟩ := H
                    have hnb46 := NB105_104.out
                    have hnc46 := NB104_105.out
                    have hcz47_0 : wc.cell? ⟨gb105, 0, none⟩ = some (.string (⟨#[48]⟩ : ByteArray)) := (blk_cell BK105.out 0).trans rfl
                    have hcz47_1 : wc.cell? ⟨gb105, 1, none⟩ = some (.string (⟨#[]⟩ : ByteArray)) := (blk_cell BK105.out 1).trans rfl
                    have hcz47_2 : wc.cell? ⟨gb105, 2, none⟩ = some (.string (⟨#[]⟩ : ByteArray)) := (blk_cell BK105.out 2).trans rfl
                    have hfz47_0 := blk_frozen BK105.out 0
                    have hfz47_1 := blk_frozen BK105.out 1
                    have hfz47_2 := blk_frozen BK105.out 2
                    try go_wp2_with (first | ((with_reducible refine gate_callee (f := 17) rfl ?_); refine goesL_ (some 34) rfl rfl Tryd.func17 (by kernel_rfl) rfl #[.string (a0.extract ((ji37) : Int).toNat a0.size), .int .u8 45] rfl (by (try simp only [List.map_toArray, List.map_cons, List.map_nil]); first | done | (simp only [hji37]; rfl) | rfl | (simp only [List.length_drop, List.length_take]; rfl)) ?_; (with_reducible refine (spec_indexOf.calls kj2 (a0.extract ((ji37) : Int).toNat a0.size) 45 t109 _ A40.out).mono ?_); rintro e w' ⟨rfl, ⟨nd, rfl⟩⟩; refine ⟨_, rfl, ?_⟩))
                    have n0_ : Aside0 ((wc.setCell ⟨gb105, 1, none⟩ (.string (a0.extract ((ji37) : Int).toNat a0.size))).heap[gb104]? = some (.cells #[.string (⟨#[]⟩ : ByteArray), .string (⟨#[]⟩ : ByteArray), .string (⟨#[]⟩ : ByteArray)] 37 (0, 0))) := ⟨by (with_reducible repeat (first | refine blk_drewN ?_ _ | refine blk_drew ?_ | refine blk_alloc ?_ _)); refine blk_far ?_ NB104_105.out _; (with_reducible repeat (first | refine blk_drewN ?_ _ | refine blk_drew ?_ | refine blk_alloc ?_ _)); exact BK104.out⟩
                    have n1_ : Aside0 ((wc.setCell ⟨gb105, 1, none⟩ (.string (a0.extract ((ji37) : Int).toNat a0.size))).heap[gb105]? = some (.cells #[.string (⟨#[48]⟩ : ByteArray), .string (a0.extract ((ji37) : Int).toNat a0.size), .string (⟨#[]⟩ : ByteArray)] 37 (0, 0))) := ⟨by (with_reducible repeat (first | refine blk_drewN ?_ _ | refine blk_drew ?_ | refine blk_alloc ?_ _)); refine blk_put (cs := #[.string (⟨#[48]⟩ : ByteArray), .string (⟨#[]⟩ : ByteArray), .string (⟨#[]⟩ : ByteArray)]) ?_ 1 _ rfl; (with_reducible repeat (first | refine blk_drewN ?_ _ | refine blk_drew ?_ | refine blk_alloc ?_ _)); exact BK105.out⟩
                    have n2_ : Aside0 (Below w.heap.size w (wc.setCell ⟨gb105, 1, none⟩ (.string (a0.extract ((ji37) : Int).toNat a0.size)))) := ⟨by repeat (first | (with_reducible first | exact HB.out | apply below_alloc | apply pw_below_drewN | apply below_drew1 | refine below_set ?_ GE104.out | refine below_set ?_ GE105.out) | exact HB.out)⟩
                    (try clear BK104)
                    (try clear BK105)
                    (try clear HB)
                    generalize (wc.setCell ⟨gb105, 1, none⟩ (.string (a0.extract ((ji37) : Int).toNat a0.size))) = w48 at n0_ n1_ n2_ ⊢
                    have BK104 := n0_
                    have BK105 := n1_
                    have HB := n2_
                    clear n0_ n1_ n2_
                    (try (rw [drewN_self w48]; generalize hq_ : World.drewN w48 _ = w48; have n0_ : Aside0 (w48.heap[gb104]? = some (.cells #[.string (⟨#[]⟩ : ByteArray), .string (⟨#[]⟩ : ByteArray), .string (⟨#[]⟩ : ByteArray)] 37 (0, 0))) := ⟨by rw [← hq_]; exact (by (with_reducible repeat (first | refine blk_drewN ?_ _ | refine blk_drew ?_ | refine blk_alloc ?_ _)); exact BK104.out)⟩; have n1_ : Aside0 (w48.heap[gb105]? = some (.cells #[.string (⟨#[48]⟩ : ByteArray), .string (a0.extract ((ji37) : Int).toNat a0.size), .string (⟨#[]⟩ : ByteArray)] 37 (0, 0))) := ⟨by rw [← hq_]; exact (by (with_reducible repeat (first | refine blk_drewN ?_ _ | refine blk_drew ?_ | refine blk_alloc ?_ _)); exact BK105.out)⟩; have n2_ : Aside0 (Below w.heap.size w w48) := ⟨by rw [← hq_]; exact (by repeat (first | (with_reducible first | exact HB.out | apply below_alloc | apply pw_below_drewN | apply below_drew1 | refine below_set ?_ GE104.out | refine below_set ?_ GE105.out) | exact HB.out))⟩; clear BK104 BK105 HB hq_; have BK104 := n0_; have BK105 := n1_; have HB := n2_; clear n0_ n1_ n2_))
                    have n0_ := Aside0.mk (blk_drew BK104.out)
                    have n1_ := Aside0.mk (blk_drew BK105.out)
                    have n2_ := Aside0.mk (below_drew1 HB.out)
                    clear BK104
                    clear BK105
                    clear HB
                    have BK104 := n0_
                    have BK105 := n1_
                    have HB := n2_
                    clear n0_ n1_ n2_
                    refine start_ (n := 10) (S := fun w' => True) (ds := []) #[false, false, false, false, false, false, false, false, false, false] (by kernel_rfl) rfl rfl trivial (fun hHeld => ?_); refine with_tabW spec_RedHatParse.tab10 spec_RedHatParse.bits10 (fun HT_ HW_ => ?_)
                    generalize w48.drew = w49 at BK104 BK105 HB hHeld ⊢
                    refine pure_ (i := 0) (N := some 37) (v := ?_) (a' := ?_) #[true, false, false, false, false, false, false, false, false, false] rfl rfl (any_of HT_.out (by kernel_rfl)) (fun _ _ _ h => h) (Or.inl ⟨by rfl, ?_⟩) ?_ ?_
                    rotate_left
                    · intro w'
                      go_simp
                      with_reducible rfl
                    rotate_left
                    · simp only [Act.put, List.setIfInBounds_toArray, List.set_cons_zero, List.set_cons_succ, i64_w, i32_w]
                      rfl
                    refine pure_ (i := 1) (N := some 38) (v := ?_) (a' := ?_) #[true, true, false, false, false, false, false, false, false, false] rfl rfl (any_of HT_.out (by kernel_rfl)) (fun _ _ _ h => h) (Or.inl ⟨by rfl, ?_⟩) ?_ ?_
                    rotate_left
                    · intro w'
                      go_simp
                      with_reducible rfl
                    rotate_left
                    · simp only [Act.put, List.setIfInBounds_toArray, List.set_cons_zero, List.set_cons_succ, i64_w, i32_w]
                      rfl
                    refine pure_ (i := 2) (N := some 39) (v := ?_) (a' := ?_) #[true, true, true, false, false, false, false, false, false, false] rfl rfl (any_of HT_.out (by kernel_rfl)) (fun _ _ _ h => h) (Or.inl ⟨by rfl, ?_⟩) ?_ ?_
                    rotate_left
                    · intro w'
                      go_simp
                      with_reducible rfl
                    rotate_left
                    · simp only [Act.put, List.setIfInBounds_toArray, List.set_cons_zero, List.set_cons_succ, i64_w, i32_w]
                      rfl
                    refine pure_ (i := 3) (N := some 40) (v := ?_) (a' := ?_) #[true, true, true, true, false, false, false, false, false, false] rfl rfl (any_of HT_.out (by kernel_rfl)) (fun _ _ _ h => h) (Or.inl ⟨by rfl, ?_⟩) ?_ ?_
                    rotate_left
                    · intro w'
                      go_simp
                      with_reducible rfl
                    rotate_left
                    · simp only [Act.put, List.setIfInBounds_toArray, List.set_cons_zero, List.set_cons_succ, i64_w, i32_w]
                      rfl
                    refine pure_ (i := 4) (N := some 41) (v := ?_) (a' := ?_) #[true, true, true, true, true, false, false, false, false, false] rfl rfl (any_of HT_.out (by kernel_rfl)) (fun _ _ _ h => h) (Or.inl ⟨by rfl, ?_⟩) ?_ ?_
                    rotate_left
                    · intro w'
                      go_simp
                      with_reducible rfl
                    rotate_left
                    · simp only [Act.put, List.setIfInBounds_toArray, List.set_cons_zero, List.set_cons_succ, i64_w, i32_w]
                      rfl
                    refine pure_ (i := 5) (N := some 42) (v := ?_) (a' := ?_) #[true, true, true, true, true, true, false, false, false, false] rfl rfl (any_of HT_.out (by kernel_rfl)) (fun _ _ _ h => h) (Or.inl ⟨by rfl, ?_⟩) ?_ ?_
                    rotate_left
                    · intro w'
                      go_simp
                      with_reducible rfl
                    rotate_left
                    · simp only [Act.put, List.setIfInBounds_toArray, List.set_cons_zero, List.set_cons_succ, i64_w, i32_w]
                      rfl
                    refine pure_ (i := 6) (N := some 43) (v := ?_) (a' := ?_) #[true, true, true, true, true, true, true, false, false, false] rfl rfl (any_of HT_.out (by kernel_rfl)) (fun _ _ _ h => h) (Or.inl ⟨by rfl, ?_⟩) ?_ ?_
                    rotate_left
                    · intro w'
                      go_simp
                      with_reducible rfl
                    rotate_left
                    · simp only [Act.put, List.setIfInBounds_toArray, List.set_cons_zero, List.set_cons_succ, i64_w, i32_w]
                      rfl
                    refine one_ (i := 7) (N := none) #[true, true, true, true, true, true, true, true, false, false] rfl rfl (one_of HT_.out (by kernel_rfl)) (by decide) (fun K hK => ?_)
                    have hs50 : w49.cell? ⟨gb105, 1, none⟩ = some (.string (a0.extract ((ji37) : Int).toNat a0.size)) := (blk_cell BK105.out 1).trans rfl
                    have hfs50 := blk_frozen BK105.out 1
                    have hns50_0 := NB104_105.out
                    have hms50_0 := NB105_104.out
                    refine skip_ (w1 := ?_) (by rfl) rfl ?_ ?_
                    rotate_left
                    · go_simp
                      rfl
                    refine hK.out _ _ trivial (fun hHeld => ?_)
                    clear hK K
                    refine pure_ (i := 8) (N := some 44) (v := ?_) (a' := ?_) #[true, true, true, true, true, true, true, true, true, false] rfl rfl (any_of HT_.out (by kernel_rfl)) (fun _ _ _ h => h) (Or.inl ⟨by rfl, ?_⟩) ?_ ?_
                    rotate_left
                    · intro w'
                      go_simp
                      with_reducible rfl
                    rotate_left
                    · simp only [Act.put, List.setIfInBounds_toArray, List.set_cons_zero, List.set_cons_succ, i64_w, i32_w]
                      rfl
                    refine one_ (i := 9) (N := none) #[true, true, true, true, true, true, true, true, true, true] rfl rfl (one_of HT_.out (by kernel_rfl)) (by decide) (fun K hK => ?_)
                    have hs51 : w49.cell? ⟨gb105, 2, none⟩ = some (.string (⟨#[]⟩ : ByteArray)) := (blk_cell BK105.out 2).trans rfl
                    have hfs51 := blk_frozen BK105.out 2
                    have hns51_0 := NB104_105.out
                    have hms51_0 := NB105_104.out
                    refine skip_ (w1 := ?_) (by rfl) rfl ?_ ?_
                    rotate_left
                    · go_simp
                      rfl
                    refine hK.out _ _ trivial (fun hHeld => ?_)
                    clear hK K
                    refine done_ (done_of HT_.out (by kernel_rfl)) ?_
                    have hcz52_0 : w49.cell? ⟨gb105, 0, none⟩ = some (.string (⟨#[48]⟩ : ByteArray)) := (blk_cell BK105.out 0).trans rfl
                    have hcz52_1 : w49.cell? ⟨gb105, 1, none⟩ = some (.string (a0.extract ((ji37) : Int).toNat a0.size)) := (blk_cell BK105.out 1).trans rfl
                    have hcz52_2 : w49.cell? ⟨gb105, 2, none⟩ = some (.string (⟨#[]⟩ : ByteArray)) := (blk_cell BK105.out 2).trans rfl
                    have hfz52_0 := blk_frozen BK105.out 0
                    have hfz52_1 := blk_frozen BK105.out 1
                    have hfz52_2 := blk_frozen BK105.out 2
                    have hcz53_0 : w49.cell? ⟨gb104, 0, none⟩ = some (.string (⟨#[]⟩ : ByteArray)) := (blk_cell BK104.out 0).trans rfl
                    have hcz53_1 : w49.cell? ⟨gb104, 1, none⟩ = some (.string (⟨#[]⟩ : ByteArray)) := (blk_cell BK104.out 1).trans rfl
                    have hcz53_2 : w49.cell? ⟨gb104, 2, none⟩ = some (.string (⟨#[]⟩ : ByteArray)) := (blk_cell BK104.out 2).trans rfl
                    have hfz53_0 := blk_frozen BK104.out 0
                    have hfz53_1 := blk_frozen BK104.out 1
                    have hfz53_2 := blk_frozen BK104.out 2
                    try go_wp2
                    refine bodyPost_ret (results_cell_row rfl _ _ gb104 37 #[.string (⟨#[48]⟩ : ByteArray), .string ((a0.extract ((ji37) : Int).toNat a0.size).extract 0 (t109 : Int).toNat), .string ((a0.extract ((ji37) : Int).toNat a0.size).extract (t109 : Int).toNat (a0.size - ((ji37) : Int).toNat))] (0, 0) _ rfl (by (with_reducible repeat (first | refine blk_drewN ?_ _ | refine blk_drew ?_ | refine blk_alloc ?_ _)); refine blk_put (cs := #[.string (⟨#[48]⟩ : ByteArray), .string ((a0.extract ((ji37) : Int).toNat a0.size).extract 0 (t109 : Int).toNat), .string (⟨#[]⟩ : ByteArray)]) ?_ 2 _ rfl; (with_reducible repeat (first | refine blk_drewN ?_ _ | refine blk_drew ?_ | refine blk_alloc ?_ _)); refine blk_put (cs := #[.string (⟨#[48]⟩ : ByteArray), .string (⟨#[]⟩ : ByteArray), .string (⟨#[]⟩ : ByteArray)]) ?_ 1 _ rfl; (with_reducible repeat (first | refine blk_drewN ?_ _ | refine blk_drew ?_ | refine blk_alloc ?_ _)); refine blk_put (cs := #[.string (⟨#[]⟩ : ByteArray), .string (⟨#[]⟩ : ByteArray), .string (⟨#[]⟩ : ByteArray)]) ?_ 0 _ rfl; (with_reducible repeat (first | refine blk_drewN ?_ _ | refine blk_drew ?_ | refine blk_alloc ?_ _)); refine blk_far ?_ NB104_105.out _; (with_reducible repeat (first | refine blk_drewN ?_ _ | refine blk_drew ?_ | refine blk_alloc ?_ _)); refine blk_far ?_ NB104_105.out _; (with_reducible repeat (first | refine blk_drewN ?_ _ | refine blk_drew ?_ | refine blk_alloc ?_ _)); exact BK104.out) Tryd.underlying37 rfl (by kernel_rfl)) rfl ?_
                    exact ⟨by first | rfl | (simp [errW_none, errW_some] <;> rfl) | (simp only [← hji37]; first | rfl | (simp [errW_none, errW_some] <;> rfl)) | (simp [*, errW_none, errW_some] <;> rfl) | (simp [bne_nil_]; done), by repeat (first | (with_reducible first | exact HB.out | apply below_alloc | apply pw_below_drewN | apply below_drew1 | refine below_set ?_ GE104.out | refine below_set ?_ GE105.out) | exact HB.out)⟩
                  · rw [if_neg c43] at H
                    exact absurd H (by simp)
                · rw [if_neg c42] at H
                  exact absurd H (by simp)
              · rw [if_neg c41] at H
                have c41b0 : decide (0 ≤ t109) = false := decide_eq_false c41
                clear c41
                simp only [Option.some.injEq, Prod.mk.injEq] at H
                obtain ⟨rfl, rfl, rfl⟩ := H
                have hnb54 := NB105_104.out
                have hnc54 := NB104_105.out
                have hcz55_0 : wc.cell? ⟨gb105, 0, none⟩ = some (.string (⟨#[48]⟩ : ByteArray)) := (blk_cell BK105.out 0).trans rfl
                have hcz55_1 : wc.cell? ⟨gb105, 1, none⟩ = some (.string (⟨#[]⟩ : ByteArray)) := (blk_cell BK105.out 1).trans rfl
                have hcz55_2 : wc.cell? ⟨gb105, 2, none⟩ = some (.string (⟨#[]⟩ : ByteArray)) := (blk_cell BK105.out 2).trans rfl
                have hfz55_0 := blk_frozen BK105.out 0
                have hfz55_1 := blk_frozen BK105.out 1
                have hfz55_2 := blk_frozen BK105.out 2
                go_wp2_with (first | ((with_reducible refine gate_callee (f := 17) rfl ?_); refine goesL_ (some 34) rfl rfl Tryd.func17 (by kernel_rfl) rfl #[.string (a0.extract ((ji37) : Int).toNat a0.size), .int .u8 45] rfl (by (try simp only [List.map_toArray, List.map_cons, List.map_nil]); first | done | (simp only [hji37]; rfl) | rfl | (simp only [List.length_drop, List.length_take]; rfl)) ?_; (with_reducible refine (spec_indexOf.calls kj2 (a0.extract ((ji37) : Int).toNat a0.size) 45 t109 _ A40.out).mono ?_); rintro e w' ⟨rfl, ⟨nd, rfl⟩⟩; refine ⟨_, rfl, ?_⟩; have hcz56_0 : wc.cell? ⟨gb104, 0, none⟩ = some (.string (⟨#[]⟩ : ByteArray)) := (blk_cell BK104.out 0).trans rfl; have hcz56_1 : wc.cell? ⟨gb104, 1, none⟩ = some (.string (⟨#[]⟩ : ByteArray)) := (blk_cell BK104.out 1).trans rfl; have hcz56_2 : wc.cell? ⟨gb104, 2, none⟩ = some (.string (⟨#[]⟩ : ByteArray)) := (blk_cell BK104.out 2).trans rfl; have hfz56_0 := blk_frozen BK104.out 0; have hfz56_1 := blk_frozen BK104.out 1; have hfz56_2 := blk_frozen BK104.out 2))
                refine bodyPost_ret (results_cell_row rfl _ _ gb104 37 #[.string (⟨#[48]⟩ : ByteArray), .string (a0.extract ((ji37) : Int).toNat a0.size), .string (⟨#[]⟩ : ByteArray)] (0, 0) _ rfl (by (with_reducible repeat (first | refine blk_drewN ?_ _ | refine blk_drew ?_ | refine blk_alloc ?_ _)); refine blk_put (cs := #[.string (⟨#[48]⟩ : ByteArray), .string (a0.extract ((ji37) : Int).toNat a0.size), .string (⟨#[]⟩ : ByteArray)]) ?_ 2 _ rfl; (with_reducible repeat (first | refine blk_drewN ?_ _ | refine blk_drew ?_ | refine blk_alloc ?_ _)); refine blk_put (cs := #[.string (⟨#[48]⟩ : ByteArray), .string (⟨#[]⟩ : ByteArray), .string (⟨#[]⟩ : ByteArray)]) ?_ 1 _ rfl; (with_reducible repeat (first | refine blk_drewN ?_ _ | refine blk_drew ?_ | refine blk_alloc ?_ _)); refine blk_put (cs := #[.string (⟨#[]⟩ : ByteArray), .string (⟨#[]⟩ : ByteArray), .string (⟨#[]⟩ : ByteArray)]) ?_ 0 _ rfl; (with_reducible repeat (first | refine blk_drewN ?_ _ | refine blk_drew ?_ | refine blk_alloc ?_ _)); refine blk_far ?_ NB104_105.out _; (with_reducible repeat (first | refine blk_drewN ?_ _ | refine blk_drew ?_ | refine blk_alloc ?_ _)); exact BK104.out) Tryd.underlying37 rfl (by kernel_rfl)) rfl ?_
                exact ⟨by first | rfl | (simp [errW_none, errW_some] <;> rfl) | (simp only [← hji37]; first | rfl | (simp [errW_none, errW_some] <;> rfl)) | (simp [*, errW_none, errW_some] <;> rfl) | (simp [bne_nil_]; done), by repeat (first | (with_reducible first | exact HB.out | apply below_alloc | apply pw_below_drewN | apply below_drew1 | refine below_set ?_ GE104.out | refine below_set ?_ GE105.out) | exact HB.out)⟩
            · rw [if_neg c39] at H
              exact absurd H (by simp)
          · rw [if_neg c38] at H
            exact absurd H (by simp)
      · replace c13 := Bool.eq_false_iff.mpr c13
        subst c13
        have H1 : ((spec_indexOf.f kj2 a0 45).bind fun t110 => (if t110 ≥ 0 then (if 0 ≤ t110 then (if t110 ≤ (a0.size : Int) then (some ((⟨#[48]⟩ : ByteArray), a0.extract 0 (t110 : Int).toNat, a0.extract (t110 : Int).toNat a0.size)) else (none)) else (none)) else (some ((⟨#[48]⟩ : ByteArray), a0, (⟨#[]⟩ : ByteArray))))) = some (r1, r2, r3) := by rw [if_neg (show ¬ (false = true) by decide)] at H; exact H
        clear H
        have H := H1
        clear H1
        replace H := Option.bind_eq_some_iff.mp H
        obtain ⟨t110, A570, H⟩ := H
        replace H : (if t110 ≥ 0 then (if 0 ≤ t110 then (if t110 ≤ (a0.size : Int) then (some ((⟨#[48]⟩ : ByteArray), a0.extract 0 (t110 : Int).toNat, a0.extract (t110 : Int).toNat a0.size)) else (none)) else (none)) else (some ((⟨#[48]⟩ : ByteArray), a0, (⟨#[]⟩ : ByteArray)))) = some (r1, r2, r3) := H
        have A57 := Aside0.mk A570
        clear A570
        by_cases c58 : t110 ≥ 0
        · rw [if_pos c58] at H
          have c58b0 : decide (0 ≤ t110) = true := decide_eq_true c58
          clear c58
          by_cases c59 : 0 ≤ t110
          · rw [if_pos c59] at H
            have c59b0 := eq_true c59
            have c59b1 : decide (0 ≤ t110) = true := decide_eq_true c59
            clear c59
            by_cases c60 : t110 ≤ (a0.size : Int)
            · rw [if_pos c60] at H
              have c60b0 := eq_true c60
              have c60b1 : decide (t110 ≤ (a0.size : Int)) = true := decide_eq_true c60
              clear c60
              have c61b0 := eq_true (of_decide_eq_true (by first | (with_reducible assumption) | assumption) : 0 ≤ t110)
              have c62b0 := eq_true (of_decide_eq_true (by first | (with_reducible assumption) | assumption) : t110 ≤ (a0.size : Int))
              simp only [Option.some.injEq, Prod.mk.injEq] at H
              obtain ⟨rfl, rfl, rfl⟩ := H
              have hnb63 := NB105_104.out
              have hnc63 := NB104_105.out
              have hcz64_0 : wc.cell? ⟨gb105, 0, none⟩ = some (.string (⟨#[48]⟩ : ByteArray)) := (blk_cell BK105.out 0).trans rfl
              have hcz64_1 : wc.cell? ⟨gb105, 1, none⟩ = some (.string (⟨#[]⟩ : ByteArray)) := (blk_cell BK105.out 1).trans rfl
              have hcz64_2 : wc.cell? ⟨gb105, 2, none⟩ = some (.string (⟨#[]⟩ : ByteArray)) := (blk_cell BK105.out 2).trans rfl
              have hfz64_0 := blk_frozen BK105.out 0
              have hfz64_1 := blk_frozen BK105.out 1
              have hfz64_2 := blk_frozen BK105.out 2
              try go_wp2_with (first | ((with_reducible refine gate_callee (f := 17) rfl ?_); refine goesL_ (some 34) rfl rfl Tryd.func17 (by kernel_rfl) rfl #[.string a0, .int .u8 45] rfl (by (try simp only [List.map_toArray, List.map_cons, List.map_nil]); first | done | rfl | (simp only [List.length_drop, List.length_take]; rfl)) ?_; (with_reducible refine (spec_indexOf.calls kj2 a0 45 t110 _ A57.out).mono ?_); rintro e w' ⟨rfl, ⟨nd, rfl⟩⟩; refine ⟨_, rfl, ?_⟩))
              have n0_ : Aside0 ((wc.setCell ⟨gb105, 1, none⟩ (.string a0)).heap[gb104]? = some (.cells #[.string (⟨#[]⟩ : ByteArray), .string (⟨#[]⟩ : ByteArray), .string (⟨#[]⟩ : ByteArray)] 37 (0, 0))) := ⟨by (with_reducible repeat (first | refine blk_drewN ?_ _ | refine blk_drew ?_ | refine blk_alloc ?_ _)); refine blk_far ?_ NB104_105.out _; (with_reducible repeat (first | refine blk_drewN ?_ _ | refine blk_drew ?_ | refine blk_alloc ?_ _)); exact BK104.out⟩
              have n1_ : Aside0 ((wc.setCell ⟨gb105, 1, none⟩ (.string a0)).heap[gb105]? = some (.cells #[.string (⟨#[48]⟩ : ByteArray), .string a0, .string (⟨#[]⟩ : ByteArray)] 37 (0, 0))) := ⟨by (with_reducible repeat (first | refine blk_drewN ?_ _ | refine blk_drew ?_ | refine blk_alloc ?_ _)); refine blk_put (cs := #[.string (⟨#[48]⟩ : ByteArray), .string (⟨#[]⟩ : ByteArray), .string (⟨#[]⟩ : ByteArray)]) ?_ 1 _ rfl; (with_reducible repeat (first | refine blk_drewN ?_ _ | refine blk_drew ?_ | refine blk_alloc ?_ _)); exact BK105.out⟩
              have n2_ : Aside0 (Below w.heap.size w (wc.setCell ⟨gb105, 1, none⟩ (.string a0))) := ⟨by repeat (first | (with_reducible first | exact HB.out | apply below_alloc | apply pw_below_drewN | apply below_drew1 | refine below_set ?_ GE104.out | refine below_set ?_ GE105.out) | exact HB.out)⟩
              (try clear BK104)
              (try clear BK105)
              (try clear HB)
              generalize (wc.setCell ⟨gb105, 1, none⟩ (.string a0)) = w65 at n0_ n1_ n2_ ⊢
              have BK104 := n0_
              have BK105 := n1_
              have HB := n2_
              clear n0_ n1_ n2_
              (try (rw [drewN_self w65]; generalize hq_ : World.drewN w65 _ = w65; have n0_ : Aside0 (w65.heap[gb104]? = some (.cells #[.string (⟨#[]⟩ : ByteArray), .string (⟨#[]⟩ : ByteArray), .string (⟨#[]⟩ : ByteArray)] 37 (0, 0))) := ⟨by rw [← hq_]; exact (by (with_reducible repeat (first | refine blk_drewN ?_ _ | refine blk_drew ?_ | refine blk_alloc ?_ _)); exact BK104.out)⟩; have n1_ : Aside0 (w65.heap[gb105]? = some (.cells #[.string (⟨#[48]⟩ : ByteArray), .string a0, .string (⟨#[]⟩ : ByteArray)] 37 (0, 0))) := ⟨by rw [← hq_]; exact (by (with_reducible repeat (first | refine blk_drewN ?_ _ | refine blk_drew ?_ | refine blk_alloc ?_ _)); exact BK105.out)⟩; have n2_ : Aside0 (Below w.heap.size w w65) := ⟨by rw [← hq_]; exact (by repeat (first | (with_reducible first | exact HB.out | apply below_alloc | apply pw_below_drewN | apply below_drew1 | refine below_set ?_ GE104.out | refine below_set ?_ GE105.out) | exact HB.out))⟩; clear BK104 BK105 HB hq_; have BK104 := n0_; have BK105 := n1_; have HB := n2_; clear n0_ n1_ n2_))
              have n0_ := Aside0.mk (blk_drew BK104.out)
              have n1_ := Aside0.mk (blk_drew BK105.out)
              have n2_ := Aside0.mk (below_drew1 HB.out)
              clear BK104
              clear BK105
              clear HB
              have BK104 := n0_
              have BK105 := n1_
              have HB := n2_
              clear n0_ n1_ n2_
              refine start_ (n := 10) (S := fun w' => True) (ds := []) #[false, false, false, false, false, false, false, false, false, false] (by kernel_rfl) rfl rfl trivial (fun hHeld => ?_); refine with_tabW spec_RedHatParse.tab10 spec_RedHatParse.bits10 (fun HT_ HW_ => ?_)
              generalize w65.drew = w66 at BK104 BK105 HB hHeld ⊢
              refine pure_ (i := 0) (N := some 37) (v := ?_) (a' := ?_) #[true, false, false, false, false, false, false, false, false, false] rfl rfl (any_of HT_.out (by kernel_rfl)) (fun _ _ _ h => h) (Or.inl ⟨by rfl, ?_⟩) ?_ ?_
              rotate_left
              · intro w'
                go_simp
                with_reducible rfl
              rotate_left
              · simp only [Act.put, List.setIfInBounds_toArray, List.set_cons_zero, List.set_cons_succ, i64_w, i32_w]
                rfl
              refine pure_ (i := 1) (N := some 38) (v := ?_) (a' := ?_) #[true, true, false, false, false, false, false, false, false, false] rfl rfl (any_of HT_.out (by kernel_rfl)) (fun _ _ _ h => h) (Or.inl ⟨by rfl, ?_⟩) ?_ ?_
              rotate_left
              · intro w'
                go_simp
                with_reducible rfl
              rotate_left
              · simp only [Act.put, List.setIfInBounds_toArray, List.set_cons_zero, List.set_cons_succ, i64_w, i32_w]
                rfl
              refine pure_ (i := 2) (N := some 39) (v := ?_) (a' := ?_) #[true, true, true, false, false, false, false, false, false, false] rfl rfl (any_of HT_.out (by kernel_rfl)) (fun _ _ _ h => h) (Or.inl ⟨by rfl, ?_⟩) ?_ ?_
              rotate_left
              · intro w'
                go_simp
                with_reducible rfl
              rotate_left
              · simp only [Act.put, List.setIfInBounds_toArray, List.set_cons_zero, List.set_cons_succ, i64_w, i32_w]
                rfl
              refine pure_ (i := 3) (N := some 40) (v := ?_) (a' := ?_) #[true, true, true, true, false, false, false, false, false, false] rfl rfl (any_of HT_.out (by kernel_rfl)) (fun _ _ _ h => h) (Or.inl ⟨by rfl, ?_⟩) ?_ ?_
              rotate_left
              · intro w'
                go_simp
                with_reducible rfl
              rotate_left
              · simp only [Act.put, List.setIfInBounds_toArray, List.set_cons_zero, List.set_cons_succ, i64_w, i32_w]
                rfl
              refine pure_ (i := 4) (N := some 41) (v := ?_) (a' := ?_) #[true, true, true, true, true, false, false, false, false, false] rfl rfl (any_of HT_.out (by kernel_rfl)) (fun _ _ _ h => h) (Or.inl ⟨by rfl, ?_⟩) ?_ ?_
              rotate_left
              · intro w'
                go_simp
                with_reducible rfl
              rotate_left
              · simp only [Act.put, List.setIfInBounds_toArray, List.set_cons_zero, List.set_cons_succ, i64_w, i32_w]
                rfl
              refine pure_ (i := 5) (N := some 42) (v := ?_) (a' := ?_) #[true, true, true, true, true, true, false, false, false, false] rfl rfl (any_of HT_.out (by kernel_rfl)) (fun _ _ _ h => h) (Or.inl ⟨by rfl, ?_⟩) ?_ ?_
              rotate_left
              · intro w'
                go_simp
                with_reducible rfl
              rotate_left
              · simp only [Act.put, List.setIfInBounds_toArray, List.set_cons_zero, List.set_cons_succ, i64_w, i32_w]
                rfl
              refine pure_ (i := 6) (N := some 43) (v := ?_) (a' := ?_) #[true, true, true, true, true, true, true, false, false, false] rfl rfl (any_of HT_.out (by kernel_rfl)) (fun _ _ _ h => h) (Or.inl ⟨by rfl, ?_⟩) ?_ ?_
              rotate_left
              · intro w'
                go_simp
                with_reducible rfl
              rotate_left
              · simp only [Act.put, List.setIfInBounds_toArray, List.set_cons_zero, List.set_cons_succ, i64_w, i32_w]
                rfl
              refine one_ (i := 7) (N := none) #[true, true, true, true, true, true, true, true, false, false] rfl rfl (one_of HT_.out (by kernel_rfl)) (by decide) (fun K hK => ?_)
              have hs67 : w66.cell? ⟨gb105, 1, none⟩ = some (.string a0) := (blk_cell BK105.out 1).trans rfl
              have hfs67 := blk_frozen BK105.out 1
              have hns67_0 := NB104_105.out
              have hms67_0 := NB105_104.out
              refine skip_ (w1 := ?_) (by rfl) rfl ?_ ?_
              rotate_left
              · go_simp
                rfl
              refine hK.out _ _ trivial (fun hHeld => ?_)
              clear hK K
              refine pure_ (i := 8) (N := some 44) (v := ?_) (a' := ?_) #[true, true, true, true, true, true, true, true, true, false] rfl rfl (any_of HT_.out (by kernel_rfl)) (fun _ _ _ h => h) (Or.inl ⟨by rfl, ?_⟩) ?_ ?_
              rotate_left
              · intro w'
                go_simp
                with_reducible rfl
              rotate_left
              · simp only [Act.put, List.setIfInBounds_toArray, List.set_cons_zero, List.set_cons_succ, i64_w, i32_w]
                rfl
              refine one_ (i := 9) (N := none) #[true, true, true, true, true, true, true, true, true, true] rfl rfl (one_of HT_.out (by kernel_rfl)) (by decide) (fun K hK => ?_)
              have hs68 : w66.cell? ⟨gb105, 2, none⟩ = some (.string (⟨#[]⟩ : ByteArray)) := (blk_cell BK105.out 2).trans rfl
              have hfs68 := blk_frozen BK105.out 2
              have hns68_0 := NB104_105.out
              have hms68_0 := NB105_104.out
              refine skip_ (w1 := ?_) (by rfl) rfl ?_ ?_
              rotate_left
              · go_simp
                rfl
              refine hK.out _ _ trivial (fun hHeld => ?_)
              clear hK K
              refine done_ (done_of HT_.out (by kernel_rfl)) ?_
              have hcz69_0 : w66.cell? ⟨gb105, 0, none⟩ = some (.string (⟨#[48]⟩ : ByteArray)) := (blk_cell BK105.out 0).trans rfl
              have hcz69_1 : w66.cell? ⟨gb105, 1, none⟩ = some (.string a0) := (blk_cell BK105.out 1).trans rfl
              have hcz69_2 : w66.cell? ⟨gb105, 2, none⟩ = some (.string (⟨#[]⟩ : ByteArray)) := (blk_cell BK105.out 2).trans rfl
              have hfz69_0 := blk_frozen BK105.out 0
              have hfz69_1 := blk_frozen BK105.out 1
              have hfz69_2 := blk_frozen BK105.out 2
              have hcz70_0 : w66.cell? ⟨gb104, 0, none⟩ = some (.string (⟨#[]⟩ : ByteArray)) := (blk_cell BK104.out 0).trans rfl
              have hcz70_1 : w66.cell? ⟨gb104, 1, none⟩ = some (.string (⟨#[]⟩ : ByteArray)) := (blk_cell BK104.out 1).trans rfl
              have hcz70_2 : w66.cell? ⟨gb104, 2, none⟩ = some (.string (⟨#[]⟩ : ByteArray)) := (blk_cell BK104.out 2).trans rfl
              have hfz70_0 := blk_frozen BK104.out 0
              have hfz70_1 := blk_frozen BK104.out 1
              have hfz70_2 := blk_frozen BK104.out 2
              try go_wp2
              refine bodyPost_ret (results_cell_row rfl _ _ gb104 37 #[.string (⟨#[48]⟩ : ByteArray), .string (a0.extract 0 (t110 : Int).toNat), .string (a0.extract (t110 : Int).toNat a0.size)] (0, 0) _ rfl (by (with_reducible repeat (first | refine blk_drewN ?_ _ | refine blk_drew ?_ | refine blk_alloc ?_ _)); refine blk_put (cs := #[.string (⟨#[48]⟩ : ByteArray), .string (a0.extract 0 (t110 : Int).toNat), .string (⟨#[]⟩ : ByteArray)]) ?_ 2 _ rfl; (with_reducible repeat (first | refine blk_drewN ?_ _ | refine blk_drew ?_ | refine blk_alloc ?_ _)); refine blk_put (cs := #[.string (⟨#[48]⟩ : ByteArray), .string (⟨#[]⟩ : ByteArray), .string (⟨#[]⟩ : ByteArray)]) ?_ 1 _ rfl; (with_reducible repeat (first | refine blk_drewN ?_ _ | refine blk_drew ?_ | refine blk_alloc ?_ _)); refine blk_put (cs := #[.string (⟨#[]⟩ : ByteArray), .string (⟨#[]⟩ : ByteArray), .string (⟨#[]⟩ : ByteArray)]) ?_ 0 _ rfl; (with_reducible repeat (first | refine blk_drewN ?_ _ | refine blk_drew ?_ | refine blk_alloc ?_ _)); refine blk_far ?_ NB104_105.out _; (with_reducible repeat (first | refine blk_drewN ?_ _ | refine blk_drew ?_ | refine blk_alloc ?_ _)); refine blk_far ?_ NB104_105.out _; (with_reducible repeat (first | refine blk_drewN ?_ _ | refine blk_drew ?_ | refine blk_alloc ?_ _)); exact BK104.out) Tryd.underlying37 rfl (by kernel_rfl)) rfl ?_
              exact ⟨by first | rfl | (simp [errW_none, errW_some] <;> rfl) | (simp [*, errW_none, errW_some] <;> rfl) | (simp [bne_nil_]; done), by repeat (first | (with_reducible first | exact HB.out | apply below_alloc | apply pw_below_drewN | apply below_drew1 | refine below_set ?_ GE104.out | refine below_set ?_ GE105.out) | exact HB.out)⟩
            · rw [if_neg c60] at H
              exact absurd H (by simp)
          · rw [if_neg c59] at H
            exact absurd H (by simp)
        · rw [if_neg c58] at H
          have c58b0 : decide (0 ≤ t110) = false := decide_eq_false c58
          clear c58
          simp only [Option.some.injEq, Prod.mk.injEq] at H
          obtain ⟨rfl, rfl, rfl⟩ := H
          have hnb71 := NB105_104.out
          have hnc71 := NB104_105.out
          have hcz72_0 : wc.cell? ⟨gb105, 0, none⟩ = some (.string (⟨#[48]⟩ : ByteArray)) := (blk_cell BK105.out 0).trans rfl
          have hcz72_1 : wc.cell? ⟨gb105, 1, none⟩ = some (.string (⟨#[]⟩ : ByteArray)) := (blk_cell BK105.out 1).trans rfl
          have hcz72_2 : wc.cell? ⟨gb105, 2, none⟩ = some (.string (⟨#[]⟩ : ByteArray)) := (blk_cell BK105.out 2).trans rfl
          have hfz72_0 := blk_frozen BK105.out 0
          have hfz72_1 := blk_frozen BK105.out 1
          have hfz72_2 := blk_frozen BK105.out 2
          go_wp2_with (first | ((with_reducible refine gate_callee (f := 17) rfl ?_); refine goesL_ (some 34) rfl rfl Tryd.func17 (by kernel_rfl) rfl #[.string a0, .int .u8 45] rfl (by (try simp only [List.map_toArray, List.map_cons, List.map_nil]); first | done | rfl | (simp only [List.length_drop, List.length_take]; rfl)) ?_; (with_reducible refine (spec_indexOf.calls kj2 a0 45 t110 _ A57.out).mono ?_); rintro e w' ⟨rfl, ⟨nd, rfl⟩⟩; refine ⟨_, rfl, ?_⟩; have hcz73_0 : wc.cell? ⟨gb104, 0, none⟩ = some (.string (⟨#[]⟩ : ByteArray)) := (blk_cell BK104.out 0).trans rfl; have hcz73_1 : wc.cell? ⟨gb104, 1, none⟩ = some (.string (⟨#[]⟩ : ByteArray)) := (blk_cell BK104.out 1).trans rfl; have hcz73_2 : wc.cell? ⟨gb104, 2, none⟩ = some (.string (⟨#[]⟩ : ByteArray)) := (blk_cell BK104.out 2).trans rfl; have hfz73_0 := blk_frozen BK104.out 0; have hfz73_1 := blk_frozen BK104.out 1; have hfz73_2 := blk_frozen BK104.out 2))
          refine bodyPost_ret (results_cell_row rfl _ _ gb104 37 #[.string (⟨#[48]⟩ : ByteArray), .string a0, .string (⟨#[]⟩ : ByteArray)] (0, 0) _ rfl (by (with_reducible repeat (first | refine blk_drewN ?_ _ | refine blk_drew ?_ | refine blk_alloc ?_ _)); refine blk_put (cs := #[.string (⟨#[48]⟩ : ByteArray), .string a0, .string (⟨#[]⟩ : ByteArray)]) ?_ 2 _ rfl; (with_reducible repeat (first | refine blk_drewN ?_ _ | refine blk_drew ?_ | refine blk_alloc ?_ _)); refine blk_put (cs := #[.string (⟨#[48]⟩ : ByteArray), .string (⟨#[]⟩ : ByteArray), .string (⟨#[]⟩ : ByteArray)]) ?_ 1 _ rfl; (with_reducible repeat (first | refine blk_drewN ?_ _ | refine blk_drew ?_ | refine blk_alloc ?_ _)); refine blk_put (cs := #[.string (⟨#[]⟩ : ByteArray), .string (⟨#[]⟩ : ByteArray), .string (⟨#[]⟩ : ByteArray)]) ?_ 0 _ rfl; (with_reducible repeat (first | refine blk_drewN ?_ _ | refine blk_drew ?_ | refine blk_alloc ?_ _)); refine blk_far ?_ NB104_105.out _; (with_reducible repeat (first | refine blk_drewN ?_ _ | refine blk_drew ?_ | refine blk_alloc ?_ _)); exact BK104.out) Tryd.underlying37 rfl (by kernel_rfl)) rfl ?_
          exact ⟨by first | rfl | (simp [errW_none, errW_some] <;> rfl) | (simp [*, errW_none, errW_some] <;> rfl) | (simp [bne_nil_]; done), by repeat (first | (with_reducible first | exact HB.out | apply below_alloc | apply pw_below_drewN | apply below_drew1 | refine below_set ?_ GE104.out | refine below_set ?_ GE105.out) | exact HB.out)⟩

/-! ### spec_orderInts: function 19 -/
def spec_orderInts.f (a0 : Int) (a1 : Int) : Option (Int) := if a0 < a1 then (some (-1)) else (if a0 > a1 then (some 1) else (some 0))
set_option maxHeartbeats 8000000 in
set_option maxRecDepth 100000 in
theorem spec_orderInts.calls (a0 : Int) (a1 : Int) (r : Int) (w : World) (h : spec_orderInts.f a0 a1 = some r) :
    Calls Tryd.prog 19 #[.int .i64 a0, .int .i64 a1] w fun e w' => e = .returned (.int .i64 r) ∧ Drawn0 w w' := by
  have H : (if a0 < a1 then (some (-1)) else (if a0 > a1 then (some 1) else (some 0))) = some r := h
  clear h
  by_cases c3 : a0 < a1
  · rw [if_pos c3] at H
    have c3b0 : decide (a0 < a1) = true := decide_eq_true c3
    clear c3
    obtain rfl := Option.some.inj H
    go_enter Tryd.func19, Tryd.ntmps19
    go_wp2
    go_ret
    exact ⟨by first | rfl | (simp; done) | (simp [*]; done) | (simp [bne_nil_]; done), by repeat (first | exact Drawn0.refl _ | apply Drawn0.step)⟩
  · rw [if_neg c3] at H
    have c3b0 : decide (a0 < a1) = false := decide_eq_false c3
    clear c3
    by_cases c4 : a0 > a1
    · rw [if_pos c4] at H
      have c4b0 : decide (a1 < a0) = true := decide_eq_true c4
      clear c4
      obtain rfl := Option.some.inj H
      go_enter Tryd.func19, Tryd.ntmps19
      go_wp2
      go_ret
      exact ⟨by first | rfl | (simp; done) | (simp [*]; done) | (simp [bne_nil_]; done), by repeat (first | exact Drawn0.refl _ | apply Drawn0.step)⟩
    · rw [if_neg c4] at H
      have c4b0 : decide (a1 < a0) = false := decide_eq_false c4
      clear c4
      obtain rfl := Option.some.inj H
      go_enter Tryd.func19, Tryd.ntmps19
      go_wp2
      go_ret
      exact ⟨by first | rfl | (simp; done) | (simp [*]; done) | (simp [bne_nil_]; done), by repeat (first | exact Drawn0.refl _ | apply Drawn0.step)⟩

/-! ### spec_isLetter: function 27 -/
def spec_isLetter.f (a0 : Int) : Option (Bool) := if a0 ≥ 97 then (if a0 ≤ 122 then (some true) else (if a0 ≥ 65 then (some (decide (a0 ≤ 90))) else (some false))) else (if a0 ≥ 65 then (some (decide (a0 ≤ 90))) else (some false))
set_option maxHeartbeats 8000000 in
set_option maxRecDepth 100000 in
theorem spec_isLetter.calls (a0 : Int) (r : Bool) (w : World) (h : spec_isLetter.f a0 = some r) :
    Calls Tryd.prog 27 #[.int .u8 a0] w fun e w' => e = .returned (.bool r) ∧ Drawn0 w w' := by
  have H : (if a0 ≥ 97 then (if a0 ≤ 122 then (some true) else (if a0 ≥ 65 then (some (decide (a0 ≤ 90))) else (some false))) else (if a0 ≥ 65 then (some (decide (a0 ≤ 90))) else (some false))) = some r := h
  clear h
  by_cases c2 : a0 ≥ 97
  · rw [if_pos c2] at H
    have c2b0 : decide (97 ≤ a0) = true := decide_eq_true c2
    clear c2
    by_cases c3 : a0 ≤ 122
    · rw [if_pos c3] at H
      have c3b0 : decide (a0 ≤ 122) = true := decide_eq_true c3
      clear c3
      obtain rfl := Option.some.inj H
      go_enter Tryd.func27, Tryd.ntmps27
      go_wp2
      go_ret
      exact ⟨by first | rfl | (simp; done) | (simp [*]; done) | (simp [bne_nil_]; done), by repeat (first | exact Drawn0.refl _ | apply Drawn0.step)⟩
    · rw [if_neg c3] at H
      have c3b0 : decide (a0 ≤ 122) = false := decide_eq_false c3
      clear c3
      by_cases c4 : a0 ≥ 65
      · rw [if_pos c4] at H
        have c4b0 : decide (65 ≤ a0) = true := decide_eq_true c4
        clear c4
        obtain rfl := Option.some.inj H
        go_enter Tryd.func27, Tryd.ntmps27
        go_wp2
        go_ret
        exact ⟨by first | rfl | (simp; done) | (simp [*]; done) | (simp [bne_nil_]; done), by repeat (first | exact Drawn0.refl _ | apply Drawn0.step)⟩
      · rw [if_neg c4] at H
        have c4b0 : decide (65 ≤ a0) = false := decide_eq_false c4
        clear c4
        obtain rfl := Option.some.inj H
        go_enter Tryd.func27, Tryd.ntmps27
        go_wp2
        go_ret
        exact ⟨by first | rfl | (simp; done) | (simp [*]; done) | (simp [bne_nil_]; done), by repeat (first | exact Drawn0.refl _ | apply Drawn0.step)⟩
  · rw [if_neg c2] at H
    have c2b0 : decide (97 ≤ a0) = false := decide_eq_false c2
    clear c2
    by_cases c5 : a0 ≥ 65
    · rw [if_pos c5] at H
      have c5b0 : decide (65 ≤ a0) = true := decide_eq_true c5
      clear c5
      obtain rfl := Option.some.inj H
      go_enter Tryd.func27, Tryd.ntmps27
      go_wp2
      go_ret
      exact ⟨by first | rfl | (simp; done) | (simp [*]; done) | (simp [bne_nil_]; done), by repeat (first | exact Drawn0.refl _ | apply Drawn0.step)⟩
    · rw [if_neg c5] at H
      have c5b0 : decide (65 ≤ a0) = false := decide_eq_false c5
      clear c5
      obtain rfl := Option.some.inj H
      go_enter Tryd.func27, Tryd.ntmps27
      go_wp2
      go_ret
      exact ⟨by first | rfl | (simp; done) | (simp [*]; done) | (simp [bne_nil_]; done), by repeat (first | exact Drawn0.refl _ | apply Drawn0.step)⟩

/-! ### spec_rpmSkip: function 20 -/
def spec_rpmSkip.l0 : Nat → ByteArray → Option (ByteArray)
  | 0, _ => none
  | k + 1, x0 => if (x0.size : Int) > 0 then (if 0 < (x0.size : Int) then ((spec_isDigit.f (bt x0 0)).bind fun t111 => (if t111 = true then (some x0) else ((spec_isLetter.f (bt x0 0)).bind fun t112 => (if t112 = true then (some x0) else (if (bt x0 0) = 126 then (some x0) else (if (bt x0 0) = 94 then (some x0) else (if 1 ≤ (x0.size : Int) then (spec_rpmSkip.l0 k (x0.extract 1 x0.size)) else (none)))))))) else (none)) else (some x0)
def spec_rpmSkip.f (k : Nat) (a0 : ByteArray) : Option (ByteArray) := spec_rpmSkip.l0 k a0
theorem spec_rpmSkip.mono_l : ∀ k, (∀ y0, LeO (spec_rpmSkip.l0 k y0) (spec_rpmSkip.l0 (k + 1) y0))
  | 0 => fun _ r h => by simp [spec_rpmSkip.l0] at h
  | k + 1 => by
    have ih0 := spec_rpmSkip.mono_l k
    · intro y0
      unfold spec_rpmSkip.l0
      repeat' first
      | (with_reducible exact ih0 _)
      | (with_reducible exact LeO.refl _)
      | (with_reducible exact LeO.none _)
      | (with_reducible refine LeO.ite ?_ ?_)
      | (with_reducible refine LeO.bind ?_ (fun _ => ?_))
      | exact ih0 _
      | exact LeO.none _
      | refine LeO.ite ?_ ?_
      | refine LeO.bind ?_ (fun _ => ?_)
theorem spec_rpmSkip.mono : ∀ a0 k, LeO (spec_rpmSkip.f k a0) (spec_rpmSkip.f (k + 1) a0) := by
  intro a0 k
  have ih0 := spec_rpmSkip.mono_l k
  unfold spec_rpmSkip.f
  repeat' first
      | (with_reducible exact ih0 _)
      | (with_reducible exact LeO.refl _)
      | (with_reducible exact LeO.none _)
      | (with_reducible refine LeO.ite ?_ ?_)
      | (with_reducible refine LeO.bind ?_ (fun _ => ?_))
      | exact ih0 _
      | exact LeO.none _
      | refine LeO.ite ?_ ?_
      | refine LeO.bind ?_ (fun _ => ?_)
set_option maxHeartbeats 8000000 in
set_option maxRecDepth 100000 in
theorem spec_rpmSkip.calls (k : Nat) (a0 : ByteArray) (r : ByteArray) (w : World) (h : spec_rpmSkip.f k a0 = some r) :
    Calls Tryd.prog 20 #[.string a0] w fun e w' => e = .returned (.string r) ∧ Drawn0 w w' := by
  have H : (spec_rpmSkip.l0 k a0) = some r := h
  clear h
  have H' := Aside0.mk H
  clear H
  go_enter Tryd.func20, Tryd.ntmps20
  go_wp2
  go_loopg [0] k (fun kq v0 w' => ∃ (x0_1 : ByteArray), v0 = .string x0_1 ∧ Aside0 (spec_rpmSkip.l0 kq x0_1 = some r) ∧ Aside0 (kq ≤ k) ∧ Drawn0 w w')
  case atStart => exact ⟨(a0), (by first | rfl | (simp; done) | (simp [*]; done) | (simp [bne_nil_]; done)), H', ⟨Nat.le_refl _⟩, by repeat (first | exact Drawn0.refl _ | apply Drawn0.step)⟩
  case round =>
    clear H'
    obtain ⟨x0_1, rfl, HA, HK1, ⟨m1, rfl⟩⟩ := hrel
    cases gk with
    | zero => exact absurd HA.out (by simp [spec_rpmSkip.l0])
    | succ k1 =>
      have H := HA.out
      clear HA
      simp only [spec_rpmSkip.l0] at H
      by_cases c2 : (x0_1.size : Int) > 0
      · rw [if_pos c2] at H
        have c2b0 : decide (0 < (x0_1.size : Int)) = true := decide_eq_true c2
        have c2b1 : decide (0 < x0_1.size) = true := decide_eq_true (by omega)
        clear c2
        by_cases c3 : 0 < (x0_1.size : Int)
        · rw [if_pos c3] at H
          have c3b0 : decide (0 < (x0_1.size : Int)) = true := decide_eq_true c3
          have c3b1 : decide (0 < x0_1.size) = true := decide_eq_true (by omega)
          clear c3
          replace H := Option.bind_eq_some_iff.mp H
          obtain ⟨t111, A50, H⟩ := H
          replace H : (if t111 = true then (some x0_1) else ((spec_isLetter.f (bt x0_1 0)).bind fun t112 => (if t112 = true then (some x0_1) else (if (bt x0_1 0) = 126 then (some x0_1) else (if (bt x0_1 0) = 94 then (some x0_1) else (if 1 ≤ (x0_1.size : Int) then (spec_rpmSkip.l0 k1 (x0_1.extract 1 x0_1.size)) else (none))))))) = some r := H
          have A5 := Aside0.mk A50
          clear A50
          by_cases c6 : t111 = true
          · subst c6
            have H1 : (some x0_1) = some r := by rw [if_pos rfl] at H; exact H
            clear H
            have H := H1
            clear H1
            obtain rfl := Option.some.inj H
            have p4 : 0 ≤ (0 : Int) := (by omega)
            have q4 : 0 < x0_1.size := (by have : (0 : Int) < (x0_1.size : Int) := of_decide_eq_true (by first | (with_reducible assumption) | assumption); omega)
            have hx4 : ∀ h : 0 < x0_1.size, ((x0_1[0]'h).toNat : Int) = bt x0_1 0 := bt_at x0_1 0
            clear p4
            have qi4 : (0 < (x0_1.size : Int)) = True := eq_true (of_decide_eq_true (by first | (with_reducible assumption) | assumption))
            replace q4 := eq_true q4
            go_wp2_with (first | (go_at_call 26; (with_reducible refine (spec_isDigit.calls (bt x0_1 0) true _ A5.out).mono ?_); rintro e w' ⟨rfl, ⟨nd, rfl⟩⟩))
            go_ret
            exact ⟨by first | rfl | (simp; done) | (simp [*]; done) | (simp [bne_nil_]; done), by repeat (first | exact Drawn0.refl _ | apply Drawn0.step)⟩
          · replace c6 := Bool.eq_false_iff.mpr c6
            subst c6
            have H1 : ((spec_isLetter.f (bt x0_1 0)).bind fun t112 => (if t112 = true then (some x0_1) else (if (bt x0_1 0) = 126 then (some x0_1) else (if (bt x0_1 0) = 94 then (some x0_1) else (if 1 ≤ (x0_1.size : Int) then (spec_rpmSkip.l0 k1 (x0_1.extract 1 x0_1.size)) else (none)))))) = some r := by rw [if_neg (show ¬ (false = true) by decide)] at H; exact H
            clear H
            have H := H1
            clear H1
            replace H := Option.bind_eq_some_iff.mp H
            obtain ⟨t112, A80, H⟩ := H
            replace H : (if t112 = true then (some x0_1) else (if (bt x0_1 0) = 126 then (some x0_1) else (if (bt x0_1 0) = 94 then (some x0_1) else (if 1 ≤ (x0_1.size : Int) then (spec_rpmSkip.l0 k1 (x0_1.extract 1 x0_1.size)) else (none))))) = some r := H
            have A8 := Aside0.mk A80
            clear A80
            by_cases c9 : t112 = true
            · subst c9
              have H1 : (some x0_1) = some r := by rw [if_pos rfl] at H; exact H
              clear H
              have H := H1
              clear H1
              obtain rfl := Option.some.inj H
              have p4 : 0 ≤ (0 : Int) := (by omega)
              have q4 : 0 < x0_1.size := (by have : (0 : Int) < (x0_1.size : Int) := of_decide_eq_true (by first | (with_reducible assumption) | assumption); omega)
              have hx4 : ∀ h : 0 < x0_1.size, ((x0_1[0]'h).toNat : Int) = bt x0_1 0 := bt_at x0_1 0
              clear p4
              have qi4 : (0 < (x0_1.size : Int)) = True := eq_true (of_decide_eq_true (by first | (with_reducible assumption) | assumption))
              replace q4 := eq_true q4
              go_wp2_with (first | (go_at_call 26; (with_reducible refine (spec_isDigit.calls (bt x0_1 0) false _ A5.out).mono ?_); rintro e w' ⟨rfl, ⟨nd, rfl⟩⟩; have p7 : 0 ≤ (0 : Int) := (by omega); have q7 : 0 < x0_1.size := (by have : (0 : Int) < (x0_1.size : Int) := of_decide_eq_true (by first | (with_reducible assumption) | assumption); omega); have hx7 : ∀ h : 0 < x0_1.size, ((x0_1[0]'h).toNat : Int) = bt x0_1 0 := bt_at x0_1 0; clear p7; have qi7 : (0 < (x0_1.size : Int)) = True := eq_true (of_decide_eq_true (by first | (with_reducible assumption) | assumption)); replace q7 := eq_true q7) | (go_at_call 27; (with_reducible refine (spec_isLetter.calls (bt x0_1 0) true _ A8.out).mono ?_); rintro e w' ⟨rfl, ⟨nd, rfl⟩⟩))
              go_ret
              exact ⟨by first | rfl | (simp; done) | (simp [*]; done) | (simp [bne_nil_]; done), by repeat (first | exact Drawn0.refl _ | apply Drawn0.step)⟩
            · replace c9 := Bool.eq_false_iff.mpr c9
              subst c9
              have H1 : (if (bt x0_1 0) = 126 then (some x0_1) else (if (bt x0_1 0) = 94 then (some x0_1) else (if 1 ≤ (x0_1.size : Int) then (spec_rpmSkip.l0 k1 (x0_1.extract 1 x0_1.size)) else (none)))) = some r := by rw [if_neg (show ¬ (false = true) by decide)] at H; exact H
              clear H
              have H := H1
              clear H1
              by_cases c11 : (bt x0_1 0) = 126
              · rw [if_pos c11] at H
                have c11b0 : ((bt x0_1 0) == 126) = true := beq_iff_eq.mpr c11
                have c11b1 : ((bt x0_1 0) != 126) = false := bne_eq_false_iff_eq.mpr c11
                clear c11
                obtain rfl := Option.some.inj H
                have p4 : 0 ≤ (0 : Int) := (by omega)
                have q4 : 0 < x0_1.size := (by have : (0 : Int) < (x0_1.size : Int) := of_decide_eq_true (by first | (with_reducible assumption) | assumption); omega)
                have hx4 : ∀ h : 0 < x0_1.size, ((x0_1[0]'h).toNat : Int) = bt x0_1 0 := bt_at x0_1 0
                clear p4
                have qi4 : (0 < (x0_1.size : Int)) = True := eq_true (of_decide_eq_true (by first | (with_reducible assumption) | assumption))
                replace q4 := eq_true q4
                go_wp2_with (first | (go_at_call 26; (with_reducible refine (spec_isDigit.calls (bt x0_1 0) false _ A5.out).mono ?_); rintro e w' ⟨rfl, ⟨nd, rfl⟩⟩; have p7 : 0 ≤ (0 : Int) := (by omega); have q7 : 0 < x0_1.size := (by have : (0 : Int) < (x0_1.size : Int) := of_decide_eq_true (by first | (with_reducible assumption) | assumption); omega); have hx7 : ∀ h : 0 < x0_1.size, ((x0_1[0]'h).toNat : Int) = bt x0_1 0 := bt_at x0_1 0; clear p7; have qi7 : (0 < (x0_1.size : Int)) = True := eq_true (of_decide_eq_true (by first | (with_reducible assumption) | assumption)); replace q7 := eq_true q7) | (go_at_call 27; (with_reducible refine (spec_isLetter.calls (bt x0_1 0) false _ A8.out).mono ?_); rintro e w' ⟨rfl, ⟨nd, rfl⟩⟩; have p10 : 0 ≤ (0 : Int) := (by omega); have q10 : 0 < x0_1.size := (by have : (0 : Int) < (x0_1.size : Int) := of_decide_eq_true (by first | (with_reducible assumption) | assumption); omega); have hx10 : ∀ h : 0 < x0_1.size, ((x0_1[0]'h).toNat : Int) = bt x0_1 0 := bt_at x0_1 0; clear p10; have qi10 : (0 < (x0_1.size : Int)) = True := eq_true (of_decide_eq_true (by first | (with_reducible assumption) | assumption)); replace q10 := eq_true q10))
                go_ret
                exact ⟨by first | rfl | (simp; done) | (simp [*]; done) | (simp [bne_nil_]; done), by repeat (first | exact Drawn0.refl _ | apply Drawn0.step)⟩
              · rw [if_neg c11] at H
                have c11b0 : ((bt x0_1 0) == 126) = false := beq_eq_false_iff_ne.mpr c11
                have c11b1 : ((bt x0_1 0) != 126) = true := bne_iff_ne.mpr c11
                by_cases c13 : (bt x0_1 0) = 94
                · rw [if_pos c13] at H
                  have c13b0 : ((bt x0_1 0) == 94) = true := beq_iff_eq.mpr c13
                  have c13b1 : ((bt x0_1 0) != 94) = false := bne_eq_false_iff_eq.mpr c13
                  clear c13
                  obtain rfl := Option.some.inj H
                  have p4 : 0 ≤ (0 : Int) := (by omega)
                  have q4 : 0 < x0_1.size := (by have : (0 : Int) < (x0_1.size : Int) := of_decide_eq_true (by first | (with_reducible assumption) | assumption); omega)
                  have hx4 : ∀ h : 0 < x0_1.size, ((x0_1[0]'h).toNat : Int) = bt x0_1 0 := bt_at x0_1 0
                  clear p4
                  have qi4 : (0 < (x0_1.size : Int)) = True := eq_true (of_decide_eq_true (by first | (with_reducible assumption) | assumption))
                  replace q4 := eq_true q4
                  go_wp2_with (first | (go_at_call 26; (with_reducible refine (spec_isDigit.calls (bt x0_1 0) false _ A5.out).mono ?_); rintro e w' ⟨rfl, ⟨nd, rfl⟩⟩; have p7 : 0 ≤ (0 : Int) := (by omega); have q7 : 0 < x0_1.size := (by have : (0 : Int) < (x0_1.size : Int) := of_decide_eq_true (by first | (with_reducible assumption) | assumption); omega); have hx7 : ∀ h : 0 < x0_1.size, ((x0_1[0]'h).toNat : Int) = bt x0_1 0 := bt_at x0_1 0; clear p7; have qi7 : (0 < (x0_1.size : Int)) = True := eq_true (of_decide_eq_true (by first | (with_reducible assumption) | assumption)); replace q7 := eq_true q7) | (go_at_call 27; (with_reducible refine (spec_isLetter.calls (bt x0_1 0) false _ A8.out).mono ?_); rintro e w' ⟨rfl, ⟨nd, rfl⟩⟩; have p10 : 0 ≤ (0 : Int) := (by omega); have q10 : 0 < x0_1.size := (by have : (0 : Int) < (x0_1.size : Int) := of_decide_eq_true (by first | (with_reducible assumption) | assumption); omega); have hx10 : ∀ h : 0 < x0_1.size, ((x0_1[0]'h).toNat : Int) = bt x0_1 0 := bt_at x0_1 0; clear p10; have qi10 : (0 < (x0_1.size : Int)) = True := eq_true (of_decide_eq_true (by first | (with_reducible assumption) | assumption)); replace q10 := eq_true q10; have p12 : 0 ≤ (0 : Int) := (by omega); have q12 : 0 < x0_1.size := (by have : (0 : Int) < (x0_1.size : Int) := of_decide_eq_true (by first | (with_reducible assumption) | assumption); omega); have hx12 : ∀ h : 0 < x0_1.size, ((x0_1[0]'h).toNat : Int) = bt x0_1 0 := bt_at x0_1 0; clear p12; have qi12 : (0 < (x0_1.size : Int)) = True := eq_true (of_decide_eq_true (by first | (with_reducible assumption) | assumption)); replace q12 := eq_true q12))
                  go_ret
                  exact ⟨by first | rfl | (simp; done) | (simp [*]; done) | (simp [bne_nil_]; done), by repeat (first | exact Drawn0.refl _ | apply Drawn0.step)⟩
                · rw [if_neg c13] at H
                  have c13b0 : ((bt x0_1 0) == 94) = false := beq_eq_false_iff_ne.mpr c13
                  have c13b1 : ((bt x0_1 0) != 94) = true := bne_iff_ne.mpr c13
                  by_cases c14 : 1 ≤ (x0_1.size : Int)
                  · rw [if_pos c14] at H
                    have c14b0 := eq_true c14
                    have c14b1 : decide (1 ≤ (x0_1.size : Int)) = true := decide_eq_true c14
                    clear c14
                    have H' := Aside0.mk H
                    clear H
                    have p4 : 0 ≤ (0 : Int) := (by omega)
                    have q4 : 0 < x0_1.size := (by have : (0 : Int) < (x0_1.size : Int) := of_decide_eq_true (by first | (with_reducible assumption) | assumption); omega)
                    have hx4 : ∀ h : 0 < x0_1.size, ((x0_1[0]'h).toNat : Int) = bt x0_1 0 := bt_at x0_1 0
                    clear p4
                    have qi4 : (0 < (x0_1.size : Int)) = True := eq_true (of_decide_eq_true (by first | (with_reducible assumption) | assumption))
                    replace q4 := eq_true q4
                    go_wp2_with (first | (go_at_call 26; (with_reducible refine (spec_isDigit.calls (bt x0_1 0) false _ A5.out).mono ?_); rintro e w' ⟨rfl, ⟨nd, rfl⟩⟩; have p7 : 0 ≤ (0 : Int) := (by omega); have q7 : 0 < x0_1.size := (by have : (0 : Int) < (x0_1.size : Int) := of_decide_eq_true (by first | (with_reducible assumption) | assumption); omega); have hx7 : ∀ h : 0 < x0_1.size, ((x0_1[0]'h).toNat : Int) = bt x0_1 0 := bt_at x0_1 0; clear p7; have qi7 : (0 < (x0_1.size : Int)) = True := eq_true (of_decide_eq_true (by first | (with_reducible assumption) | assumption)); replace q7 := eq_true q7) | (go_at_call 27; (with_reducible refine (spec_isLetter.calls (bt x0_1 0) false _ A8.out).mono ?_); rintro e w' ⟨rfl, ⟨nd, rfl⟩⟩; have p10 : 0 ≤ (0 : Int) := (by omega); have q10 : 0 < x0_1.size := (by have : (0 : Int) < (x0_1.size : Int) := of_decide_eq_true (by first | (with_reducible assumption) | assumption); omega); have hx10 : ∀ h : 0 < x0_1.size, ((x0_1[0]'h).toNat : Int) = bt x0_1 0 := bt_at x0_1 0; clear p10; have qi10 : (0 < (x0_1.size : Int)) = True := eq_true (of_decide_eq_true (by first | (with_reducible assumption) | assumption)); replace q10 := eq_true q10; have p12 : 0 ≤ (0 : Int) := (by omega); have q12 : 0 < x0_1.size := (by have : (0 : Int) < (x0_1.size : Int) := of_decide_eq_true (by first | (with_reducible assumption) | assumption); omega); have hx12 : ∀ h : 0 < x0_1.size, ((x0_1[0]'h).toNat : Int) = bt x0_1 0 := bt_at x0_1 0; clear p12; have qi12 : (0 < (x0_1.size : Int)) = True := eq_true (of_decide_eq_true (by first | (with_reducible assumption) | assumption)); replace q12 := eq_true q12))
                    go_roundg k1
                    case measure => have := HK1.out; omega
                    case rel => exact ⟨(x0_1.extract 1 x0_1.size), (by first | rfl | (simp; done) | (simp [*]; done) | (simp [bne_nil_]; done)), H', ⟨by have := HK1.out; omega⟩, by repeat (first | exact Drawn0.refl _ | apply Drawn0.step)⟩
                  · rw [if_neg c14] at H
                    exact absurd H (by simp)
        · rw [if_neg c3] at H
          exact absurd H (by simp)
      · rw [if_neg c2] at H
        have c2b0 : decide (0 < (x0_1.size : Int)) = false := decide_eq_false c2
        have c2b1 : decide (0 < x0_1.size) = false := decide_eq_false (by omega)
        clear c2
        obtain rfl := Option.some.inj H
        go_wp2
        go_ret
        exact ⟨by first | rfl | (simp; done) | (simp [*]; done) | (simp [bne_nil_]; done), by repeat (first | exact Drawn0.refl _ | apply Drawn0.step)⟩

end Go.Proofs.YtehlakaccgccbaaDoor.QO
