-- Written by a working copy of the kit's print program, turned at a few places by wip/tool/mkprint.py. Lean checks it.
import Derived.Test.YtkecmlpihnjjgaaDoorQLx0
namespace Go.Proofs.YtkecmlpihnjjgaaDoor.QL
open Go.RowKit Go.Proofs.YtkecmlpihnjjgaaDoorW.PrintWords Go.Proofs.YtkecmlpihnjjgaaDoorW.PrintLast Go.Proofs.YtkecmlpihnjjgaaDoorW.PrintMore
attribute [local go_sem] max2_int min2_int max_two min_two max_three min_three max_four min_four   -- for this text's walks alone
set_option linter.unusedVariables false
set_option linter.unusedSimpArgs false

/-! ### laws_short: function 9 -/
def laws_short.l0 : Nat → List ByteArray → List ByteArray → Int → Int → Option (Bool)
  | 0, _, _, _, _ => none
  | k + 1, x0, x5, x6, x7 => if x7 < x6 then (if 0 ≤ x7 then (if x7 < (x5.length : Int) then (if ((rdOf ByteArray.empty x5 x7).size : Int) > 1500 then (some false) else (laws_short.l0 k x0 x5 x6 (wrap64 (x7 + 1)))) else (none)) else (none)) else (some (decide ((x0.length : Int) ≤ 150)))
def laws_short.f (k : Nat) (l0 : List ByteArray) : Option (Bool) := laws_short.l0 k l0 l0 (l0.length : Int) 0
theorem laws_short.mono_l : ∀ k, (∀ y0 y1 y2 y3, LeO (laws_short.l0 k y0 y1 y2 y3) (laws_short.l0 (k + 1) y0 y1 y2 y3))
  | 0 => fun _ _ _ _ r h => by simp [laws_short.l0] at h
  | k + 1 => by
    have ih0 := laws_short.mono_l k
    · intro y0 y1 y2 y3
      unfold laws_short.l0
      repeat' first
      | (with_reducible exact ih0 _ _ _ _)
      | (with_reducible exact LeO.refl _)
      | (with_reducible exact LeO.none _)
      | (with_reducible refine LeO.ite ?_ ?_)
      | (with_reducible refine LeO.bind ?_ (fun _ => ?_))
      | exact ih0 _ _ _ _
      | exact LeO.none _
      | refine LeO.ite ?_ ?_
      | refine LeO.bind ?_ (fun _ => ?_)
theorem laws_short.mono : ∀ a0 k, LeO (laws_short.f k a0) (laws_short.f (k + 1) a0) := by
  intro a0 k
  have ih0 := laws_short.mono_l k
  unfold laws_short.f
  repeat' first
      | (with_reducible exact ih0 _ _ _ _)
      | (with_reducible exact LeO.refl _)
      | (with_reducible exact LeO.none _)
      | (with_reducible refine LeO.ite ?_ ?_)
      | (with_reducible refine LeO.bind ?_ (fun _ => ?_))
      | exact ih0 _ _ _ _
      | exact LeO.none _
      | refine LeO.ite ?_ ?_
      | refine LeO.bind ?_ (fun _ => ?_)
set_option maxHeartbeats 8000000 in
set_option maxRecDepth 100000 in
theorem laws_short.calls (k : Nat) (A0 : Option Addr) (c0 : Nat) (l0 : List ByteArray) (r : Bool) (w : World) (hr0 : Kd.C Kd.string w A0 l0.length l0) (hc0 : l0.length ≤ c0) (h : laws_short.f k l0 = some r) :
    Calls Tryd.prog 9 #[.slice A0 l0.length c0] w fun e w' => e = .returned (.bool r) ∧ Drawn0 w w' := by
  have HR0 := Aside0.mk hr0
  have HC0 := Aside0.mk hc0
  clear hr0 hc0
  have H : (laws_short.l0 k l0 l0 (l0.length : Int) 0) = some r := h
  clear h
  have H' := Aside0.mk H
  clear H
  go_enter Tryd.func9, Tryd.ntmps9
  go_wp2
  go_loopg [7] k (fun kq v7 w' => ∃ (x7_1 : Int), v7 = .int .i64 x7_1 ∧ Aside0 (laws_short.l0 kq l0 l0 (l0.length : Int) x7_1 = some r) ∧ Aside0 (kq ≤ k) ∧ Drawn0 w w')
  case atStart => exact ⟨(0), (by first | rfl | (simp; done) | (simp [*]; done) | (simp [bne_nil_]; done)), H', ⟨Nat.le_refl _⟩, by repeat (first | exact Drawn0.refl _ | apply Drawn0.step)⟩
  case round =>
    clear H'
    obtain ⟨x7_1, rfl, HA, HK1, ⟨m1, rfl⟩⟩ := hrel
    cases gk with
    | zero => exact absurd HA.out (by simp [laws_short.l0])
    | succ k1 =>
      have H := HA.out
      clear HA
      simp only [laws_short.l0] at H
      by_cases c2 : x7_1 < (l0.length : Int)
      · rw [if_pos c2] at H
        have c2b0 : decide (x7_1 < (l0.length : Int)) = true := decide_eq_true c2
        clear c2
        by_cases c3 : 0 ≤ x7_1
        · rw [if_pos c3] at H
          have c3b0 : decide (0 ≤ x7_1) = true := decide_eq_true c3
          clear c3
          by_cases c4 : x7_1 < (l0.length : Int)
          · rw [if_pos c4] at H
            have c4b0 : decide (x7_1 < (l0.length : Int)) = true := decide_eq_true c4
            clear c4
            by_cases c5 : ((rdOf ByteArray.empty l0 x7_1).size : Int) > 1500
            · rw [if_pos c5] at H
              have c5b0 : decide (1500 < ((rdOf ByteArray.empty l0 x7_1).size : Int)) = true := decide_eq_true c5
              have c5b1 : decide (1500 < (rdOf ByteArray.empty l0 x7_1).size) = true := decide_eq_true (by omega)
              clear c5
              obtain rfl := Option.some.inj H
              have p101 : 0 ≤ (x7_1 : Int) := of_decide_eq_true (by first | (with_reducible assumption) | assumption)
              have q101 : x7_1 < (l0.length : Int) := of_decide_eq_true (by first | (with_reducible assumption) | assumption)
              obtain ⟨ad101, e101, hx101_0⟩ := Kd.at_string HR0.out x7_1 p101 q101
              cases e101
              replace p101 := eq_true p101
              replace q101 := eq_true q101
              go_wp2
              go_ret
              exact ⟨by first | rfl | (simp; done) | (simp [*]; done) | (simp [bne_nil_]; done), by repeat (first | exact Drawn0.refl _ | apply Drawn0.step)⟩
            · rw [if_neg c5] at H
              have c5b0 : decide (1500 < ((rdOf ByteArray.empty l0 x7_1).size : Int)) = false := decide_eq_false c5
              have c5b1 : decide (1500 < (rdOf ByteArray.empty l0 x7_1).size) = false := decide_eq_false (by omega)
              clear c5
              have H' := Aside0.mk H
              clear H
              have p101 : 0 ≤ (x7_1 : Int) := of_decide_eq_true (by first | (with_reducible assumption) | assumption)
              have q101 : x7_1 < (l0.length : Int) := of_decide_eq_true (by first | (with_reducible assumption) | assumption)
              obtain ⟨ad101, e101, hx101_0⟩ := Kd.at_string HR0.out x7_1 p101 q101
              cases e101
              replace p101 := eq_true p101
              replace q101 := eq_true q101
              go_wp2
              go_roundg k1
              case measure => have := HK1.out; omega
              case rel => exact ⟨(wrap64 (x7_1 + 1)), (by first | rfl | (simp; done) | (simp [*]; done) | (simp [bne_nil_]; done)), H', ⟨by have := HK1.out; omega⟩, by repeat (first | exact Drawn0.refl _ | apply Drawn0.step)⟩
          · rw [if_neg c4] at H
            exact absurd H (by simp)
        · rw [if_neg c3] at H
          exact absurd H (by simp)
      · rw [if_neg c2] at H
        have c2b0 : decide (x7_1 < (l0.length : Int)) = false := decide_eq_false c2
        clear c2
        obtain rfl := Option.some.inj H
        go_wp2
        go_ret
        exact ⟨by first | rfl | (simp; done) | (simp [*]; done) | (simp [bne_nil_]; done), by repeat (first | exact Drawn0.refl _ | apply Drawn0.step)⟩

/-! ### spec_isDigit: function 37 -/
def spec_isDigit.f (a0 : Int) : Option (Bool) := if a0 ≥ 48 then (some (decide (a0 ≤ 57))) else (some false)
set_option maxHeartbeats 8000000 in
set_option maxRecDepth 100000 in
theorem spec_isDigit.calls (a0 : Int) (r : Bool) (w : World) (h : spec_isDigit.f a0 = some r) :
    Calls Tryd.prog 37 #[.int .u8 a0] w fun e w' => e = .returned (.bool r) ∧ Drawn0 w w' := by
  have H : (if a0 ≥ 48 then (some (decide (a0 ≤ 57))) else (some false)) = some r := h
  clear h
  by_cases c2 : a0 ≥ 48
  · rw [if_pos c2] at H
    have c2b0 : decide (48 ≤ a0) = true := decide_eq_true c2
    clear c2
    obtain rfl := Option.some.inj H
    go_enter Tryd.func37, Tryd.ntmps37
    go_wp2
    go_ret
    exact ⟨by first | rfl | (simp; done) | (simp [*]; done) | (simp [bne_nil_]; done), by repeat (first | exact Drawn0.refl _ | apply Drawn0.step)⟩
  · rw [if_neg c2] at H
    have c2b0 : decide (48 ≤ a0) = false := decide_eq_false c2
    clear c2
    obtain rfl := Option.some.inj H
    go_enter Tryd.func37, Tryd.ntmps37
    go_wp2
    go_ret
    exact ⟨by first | rfl | (simp; done) | (simp [*]; done) | (simp [bne_nil_]; done), by repeat (first | exact Drawn0.refl _ | apply Drawn0.step)⟩

/-! ### spec_allDigits: function 25 -/
def spec_allDigits.l0 : Nat → ByteArray → Int → Option (Bool)
  | 0, _, _ => none
  | k + 1, x0, x3 => if x3 < (x0.size : Int) then (if 0 ≤ x3 then ((spec_isDigit.f (bt x0 x3)).bind fun t102 => (if t102 = true then (spec_allDigits.l0 k x0 (wrap64 (x3 + 1))) else (some false))) else (none)) else (some (decide ((x0.size : Int) > 0)))
def spec_allDigits.f (k : Nat) (a0 : ByteArray) : Option (Bool) := spec_allDigits.l0 k a0 0
theorem spec_allDigits.mono_l : ∀ k, (∀ y0 y1, LeO (spec_allDigits.l0 k y0 y1) (spec_allDigits.l0 (k + 1) y0 y1))
  | 0 => fun _ _ r h => by simp [spec_allDigits.l0] at h
  | k + 1 => by
    have ih0 := spec_allDigits.mono_l k
    · intro y0 y1
      unfold spec_allDigits.l0
      repeat' first
      | (with_reducible exact ih0 _ _)
      | (with_reducible exact LeO.refl _)
      | (with_reducible exact LeO.none _)
      | (with_reducible refine LeO.ite ?_ ?_)
      | (with_reducible refine LeO.bind ?_ (fun _ => ?_))
      | exact ih0 _ _
      | exact LeO.none _
      | refine LeO.ite ?_ ?_
      | refine LeO.bind ?_ (fun _ => ?_)
theorem spec_allDigits.mono : ∀ a0 k, LeO (spec_allDigits.f k a0) (spec_allDigits.f (k + 1) a0) := by
  intro a0 k
  have ih0 := spec_allDigits.mono_l k
  unfold spec_allDigits.f
  repeat' first
      | (with_reducible exact ih0 _ _)
      | (with_reducible exact LeO.refl _)
      | (with_reducible exact LeO.none _)
      | (with_reducible refine LeO.ite ?_ ?_)
      | (with_reducible refine LeO.bind ?_ (fun _ => ?_))
      | exact ih0 _ _
      | exact LeO.none _
      | refine LeO.ite ?_ ?_
      | refine LeO.bind ?_ (fun _ => ?_)
set_option maxHeartbeats 8000000 in
set_option maxRecDepth 100000 in
theorem spec_allDigits.calls (k : Nat) (a0 : ByteArray) (r : Bool) (w : World) (h : spec_allDigits.f k a0 = some r) :
    Calls Tryd.prog 25 #[.string a0] w fun e w' => e = .returned (.bool r) ∧ Drawn0 w w' := by
  have H : (spec_allDigits.l0 k a0 0) = some r := h
  clear h
  have H' := Aside0.mk H
  clear H
  go_enter Tryd.func25, Tryd.ntmps25
  go_wp2
  go_loopg [3] k (fun kq v3 w' => ∃ (x3_1 : Int), v3 = .int .i64 x3_1 ∧ Aside0 (spec_allDigits.l0 kq a0 x3_1 = some r) ∧ Aside0 (kq ≤ k) ∧ Drawn0 w w')
  case atStart => exact ⟨(0), (by first | rfl | (simp; done) | (simp [*]; done) | (simp [bne_nil_]; done)), H', ⟨Nat.le_refl _⟩, by repeat (first | exact Drawn0.refl _ | apply Drawn0.step)⟩
  case round =>
    clear H'
    obtain ⟨x3_1, rfl, HA, HK1, ⟨m1, rfl⟩⟩ := hrel
    cases gk with
    | zero => exact absurd HA.out (by simp [spec_allDigits.l0])
    | succ k1 =>
      have H := HA.out
      clear HA
      simp only [spec_allDigits.l0] at H
      by_cases c2 : x3_1 < (a0.size : Int)
      · rw [if_pos c2] at H
        have c2b0 : decide (x3_1 < (a0.size : Int)) = true := decide_eq_true c2
        clear c2
        by_cases c3 : 0 ≤ x3_1
        · rw [if_pos c3] at H
          have c3b0 : decide (0 ≤ x3_1) = true := decide_eq_true c3
          clear c3
          replace H := Option.bind_eq_some_iff.mp H
          obtain ⟨t102, A50, H⟩ := H
          replace H : (if t102 = true then (spec_allDigits.l0 k1 a0 (wrap64 (x3_1 + 1))) else (some false)) = some r := H
          have A5 := Aside0.mk A50
          clear A50
          by_cases c6 : t102 = true
          · subst c6
            have H1 : (spec_allDigits.l0 k1 a0 (wrap64 (x3_1 + 1))) = some r := by rw [if_pos rfl] at H; exact H
            clear H
            have H := H1
            clear H1
            have H' := Aside0.mk H
            clear H
            have p4 : 0 ≤ (x3_1 : Int) := of_decide_eq_true (by first | (with_reducible assumption) | assumption)
            have q4 : x3_1 < (a0.size : Int) := of_decide_eq_true (by first | (with_reducible assumption) | assumption)
            have hx4 := bt_at a0 x3_1
            replace p4 := eq_true p4
            replace q4 := eq_true q4
            go_wp2_with (first | ((with_reducible refine gate_callee (f := 37) rfl ?_); refine goesL_ (some 13) rfl rfl Tryd.func37 (by kernel_rfl) rfl #[.int .u8 (bt a0 x3_1)] rfl (by (try simp only [List.map_toArray, List.map_cons, List.map_nil]); first | done | rfl | (simp only [List.length_drop, List.length_take]; rfl)) ?_; (with_reducible refine (spec_isDigit.calls (bt a0 x3_1) true _ A5.out).mono ?_); rintro e w' ⟨rfl, ⟨nd, rfl⟩⟩; refine ⟨_, rfl, ?_⟩))
            go_roundg k1
            case measure => have := HK1.out; omega
            case rel => exact ⟨(wrap64 (x3_1 + 1)), (by first | rfl | (simp; done) | (simp [*]; done) | (simp [bne_nil_]; done)), H', ⟨by have := HK1.out; omega⟩, by repeat (first | exact Drawn0.refl _ | apply Drawn0.step)⟩
          · replace c6 := Bool.eq_false_iff.mpr c6
            subst c6
            have H1 : (some false) = some r := by rw [if_neg (show ¬ (false = true) by decide)] at H; exact H
            clear H
            have H := H1
            clear H1
            obtain rfl := Option.some.inj H
            have p4 : 0 ≤ (x3_1 : Int) := of_decide_eq_true (by first | (with_reducible assumption) | assumption)
            have q4 : x3_1 < (a0.size : Int) := of_decide_eq_true (by first | (with_reducible assumption) | assumption)
            have hx4 := bt_at a0 x3_1
            replace p4 := eq_true p4
            replace q4 := eq_true q4
            go_wp2_with (first | ((with_reducible refine gate_callee (f := 37) rfl ?_); refine goesL_ (some 13) rfl rfl Tryd.func37 (by kernel_rfl) rfl #[.int .u8 (bt a0 x3_1)] rfl (by (try simp only [List.map_toArray, List.map_cons, List.map_nil]); first | done | rfl | (simp only [List.length_drop, List.length_take]; rfl)) ?_; (with_reducible refine (spec_isDigit.calls (bt a0 x3_1) false _ A5.out).mono ?_); rintro e w' ⟨rfl, ⟨nd, rfl⟩⟩; refine ⟨_, rfl, ?_⟩))
            go_ret
            exact ⟨by first | rfl | (simp; done) | (simp [*]; done) | (simp [bne_nil_]; done), by repeat (first | exact Drawn0.refl _ | apply Drawn0.step)⟩
        · rw [if_neg c3] at H
          exact absurd H (by simp)
      · rw [if_neg c2] at H
        have c2b0 : decide (x3_1 < (a0.size : Int)) = false := decide_eq_false c2
        clear c2
        obtain rfl := Option.some.inj H
        go_wp2
        go_ret
        exact ⟨by first | rfl | (simp; done) | (simp [*]; done) | (simp [bne_nil_]; done), by repeat (first | exact Drawn0.refl _ | apply Drawn0.step)⟩

/-! ### spec_Ascii: function 32 -/
def spec_Ascii.l0 : Nat → ByteArray → Int → Option (Bool)
  | 0, _, _ => none
  | k + 1, x0, x3 => if x3 < (x0.size : Int) then (if 0 ≤ x3 then (if (bt x0 x3) > 127 then (some false) else (spec_Ascii.l0 k x0 (wrap64 (x3 + 1)))) else (none)) else (some true)
def spec_Ascii.f (k : Nat) (a0 : ByteArray) : Option (Bool) := spec_Ascii.l0 k a0 0
theorem spec_Ascii.mono_l : ∀ k, (∀ y0 y1, LeO (spec_Ascii.l0 k y0 y1) (spec_Ascii.l0 (k + 1) y0 y1))
  | 0 => fun _ _ r h => by simp [spec_Ascii.l0] at h
  | k + 1 => by
    have ih0 := spec_Ascii.mono_l k
    · intro y0 y1
      unfold spec_Ascii.l0
      repeat' first
      | (with_reducible exact ih0 _ _)
      | (with_reducible exact LeO.refl _)
      | (with_reducible exact LeO.none _)
      | (with_reducible refine LeO.ite ?_ ?_)
      | (with_reducible refine LeO.bind ?_ (fun _ => ?_))
      | exact ih0 _ _
      | exact LeO.none _
      | refine LeO.ite ?_ ?_
      | refine LeO.bind ?_ (fun _ => ?_)
theorem spec_Ascii.mono : ∀ a0 k, LeO (spec_Ascii.f k a0) (spec_Ascii.f (k + 1) a0) := by
  intro a0 k
  have ih0 := spec_Ascii.mono_l k
  unfold spec_Ascii.f
  repeat' first
      | (with_reducible exact ih0 _ _)
      | (with_reducible exact LeO.refl _)
      | (with_reducible exact LeO.none _)
      | (with_reducible refine LeO.ite ?_ ?_)
      | (with_reducible refine LeO.bind ?_ (fun _ => ?_))
      | exact ih0 _ _
      | exact LeO.none _
      | refine LeO.ite ?_ ?_
      | refine LeO.bind ?_ (fun _ => ?_)
set_option maxHeartbeats 8000000 in
set_option maxRecDepth 100000 in
theorem spec_Ascii.calls (k : Nat) (a0 : ByteArray) (r : Bool) (w : World) (h : spec_Ascii.f k a0 = some r) :
    Calls Tryd.prog 32 #[.string a0] w fun e w' => e = .returned (.bool r) ∧ Drawn0 w w' := by
  have H : (spec_Ascii.l0 k a0 0) = some r := h
  clear h
  have H' := Aside0.mk H
  clear H
  go_enter Tryd.func32, Tryd.ntmps32
  go_wp2
  go_loopg [3] k (fun kq v3 w' => ∃ (x3_1 : Int), v3 = .int .i64 x3_1 ∧ Aside0 (spec_Ascii.l0 kq a0 x3_1 = some r) ∧ Aside0 (kq ≤ k) ∧ Drawn0 w w')
  case atStart => exact ⟨(0), (by first | rfl | (simp; done) | (simp [*]; done) | (simp [bne_nil_]; done)), H', ⟨Nat.le_refl _⟩, by repeat (first | exact Drawn0.refl _ | apply Drawn0.step)⟩
  case round =>
    clear H'
    obtain ⟨x3_1, rfl, HA, HK1, ⟨m1, rfl⟩⟩ := hrel
    cases gk with
    | zero => exact absurd HA.out (by simp [spec_Ascii.l0])
    | succ k1 =>
      have H := HA.out
      clear HA
      simp only [spec_Ascii.l0] at H
      by_cases c2 : x3_1 < (a0.size : Int)
      · rw [if_pos c2] at H
        have c2b0 : decide (x3_1 < (a0.size : Int)) = true := decide_eq_true c2
        clear c2
        by_cases c3 : 0 ≤ x3_1
        · rw [if_pos c3] at H
          have c3b0 : decide (0 ≤ x3_1) = true := decide_eq_true c3
          clear c3
          by_cases c5 : (bt a0 x3_1) > 127
          · rw [if_pos c5] at H
            have c5b0 : decide (127 < (bt a0 x3_1)) = true := decide_eq_true c5
            clear c5
            obtain rfl := Option.some.inj H
            have p4 : 0 ≤ (x3_1 : Int) := of_decide_eq_true (by first | (with_reducible assumption) | assumption)
            have q4 : x3_1 < (a0.size : Int) := of_decide_eq_true (by first | (with_reducible assumption) | assumption)
            have hx4 := bt_at a0 x3_1
            replace p4 := eq_true p4
            replace q4 := eq_true q4
            go_wp2
            go_ret
            exact ⟨by first | rfl | (simp; done) | (simp [*]; done) | (simp [bne_nil_]; done), by repeat (first | exact Drawn0.refl _ | apply Drawn0.step)⟩
          · rw [if_neg c5] at H
            have c5b0 : decide (127 < (bt a0 x3_1)) = false := decide_eq_false c5
            clear c5
            have H' := Aside0.mk H
            clear H
            have p4 : 0 ≤ (x3_1 : Int) := of_decide_eq_true (by first | (with_reducible assumption) | assumption)
            have q4 : x3_1 < (a0.size : Int) := of_decide_eq_true (by first | (with_reducible assumption) | assumption)
            have hx4 := bt_at a0 x3_1
            replace p4 := eq_true p4
            replace q4 := eq_true q4
            go_wp2
            go_roundg k1
            case measure => have := HK1.out; omega
            case rel => exact ⟨(wrap64 (x3_1 + 1)), (by first | rfl | (simp; done) | (simp [*]; done) | (simp [bne_nil_]; done)), H', ⟨by have := HK1.out; omega⟩, by repeat (first | exact Drawn0.refl _ | apply Drawn0.step)⟩
        · rw [if_neg c3] at H
          exact absurd H (by simp)
      · rw [if_neg c2] at H
        have c2b0 : decide (x3_1 < (a0.size : Int)) = false := decide_eq_false c2
        clear c2
        obtain rfl := Option.some.inj H
        go_wp2
        go_ret
        exact ⟨by first | rfl | (simp; done) | (simp [*]; done) | (simp [bne_nil_]; done), by repeat (first | exact Drawn0.refl _ | apply Drawn0.step)⟩

/-! ### spec_mavenLetters: function 33 -/
def spec_mavenLetters.f (a0 : ByteArray) : Option (Bool) := if a0.toList = ([] : List UInt8) then (some true) else (if 0 < (a0.size : Int) then (if (bt a0 0) ≥ 97 then (some (decide ((bt a0 0) ≤ 122))) else (some false)) else (none))
set_option maxHeartbeats 8000000 in
set_option maxRecDepth 100000 in
theorem spec_mavenLetters.calls (a0 : ByteArray) (r : Bool) (w : World) (h : spec_mavenLetters.f a0 = some r) :
    Calls Tryd.prog 33 #[.string a0] w fun e w' => e = .returned (.bool r) ∧ Drawn0 w w' := by
  have H : (if a0.toList = ([] : List UInt8) then (some true) else (if 0 < (a0.size : Int) then (if (bt a0 0) ≥ 97 then (some (decide ((bt a0 0) ≤ 122))) else (some false)) else (none))) = some r := h
  clear h
  by_cases c2 : a0.toList = ([] : List UInt8)
  · rw [if_pos c2] at H
    have c2b0 : (a0.toList == ([] : List UInt8)) = true := beq_iff_eq.mpr c2
    have c2b1 : (a0.toList != ([] : List UInt8)) = false := bne_eq_false_iff_eq.mpr c2
    clear c2
    obtain rfl := Option.some.inj H
    go_enter Tryd.func33, Tryd.ntmps33
    go_wp2
    go_ret
    exact ⟨by first | rfl | (simp; done) | (simp [*]; done) | (simp [bne_nil_]; done), by repeat (first | exact Drawn0.refl _ | apply Drawn0.step)⟩
  · rw [if_neg c2] at H
    have c2b0 : (a0.toList == ([] : List UInt8)) = false := beq_eq_false_iff_ne.mpr c2
    have c2b1 : (a0.toList != ([] : List UInt8)) = true := bne_iff_ne.mpr c2
    by_cases c3 : 0 < (a0.size : Int)
    · rw [if_pos c3] at H
      have c3b0 : decide (0 < (a0.size : Int)) = true := decide_eq_true c3
      have c3b1 : decide (0 < a0.size) = true := decide_eq_true (by omega)
      clear c3
      by_cases c5 : (bt a0 0) ≥ 97
      · rw [if_pos c5] at H
        have c5b0 : decide (97 ≤ (bt a0 0)) = true := decide_eq_true c5
        clear c5
        obtain rfl := Option.some.inj H
        have p4 : 0 ≤ (0 : Int) := (by omega)
        have q4 : 0 < a0.size := (by have : (0 : Int) < (a0.size : Int) := of_decide_eq_true (by first | (with_reducible assumption) | assumption); omega)
        have hx4 : ∀ h : 0 < a0.size, ((a0[0]'h).toNat : Int) = bt a0 0 := bt_at a0 0
        clear p4
        have qi4 : (0 < (a0.size : Int)) = True := eq_true (of_decide_eq_true (by first | (with_reducible assumption) | assumption))
        replace q4 := eq_true q4
        have p6 : 0 ≤ (0 : Int) := (by omega)
        have q6 : 0 < a0.size := (by have : (0 : Int) < (a0.size : Int) := of_decide_eq_true (by first | (with_reducible assumption) | assumption); omega)
        have hx6 : ∀ h : 0 < a0.size, ((a0[0]'h).toNat : Int) = bt a0 0 := bt_at a0 0
        clear p6
        have qi6 : (0 < (a0.size : Int)) = True := eq_true (of_decide_eq_true (by first | (with_reducible assumption) | assumption))
        replace q6 := eq_true q6
        go_enter Tryd.func33, Tryd.ntmps33
        go_wp2
        go_ret
        exact ⟨by first | rfl | (simp; done) | (simp [*]; done) | (simp [bne_nil_]; done), by repeat (first | exact Drawn0.refl _ | apply Drawn0.step)⟩
      · rw [if_neg c5] at H
        have c5b0 : decide (97 ≤ (bt a0 0)) = false := decide_eq_false c5
        clear c5
        obtain rfl := Option.some.inj H
        have p4 : 0 ≤ (0 : Int) := (by omega)
        have q4 : 0 < a0.size := (by have : (0 : Int) < (a0.size : Int) := of_decide_eq_true (by first | (with_reducible assumption) | assumption); omega)
        have hx4 : ∀ h : 0 < a0.size, ((a0[0]'h).toNat : Int) = bt a0 0 := bt_at a0 0
        clear p4
        have qi4 : (0 < (a0.size : Int)) = True := eq_true (of_decide_eq_true (by first | (with_reducible assumption) | assumption))
        replace q4 := eq_true q4
        go_enter Tryd.func33, Tryd.ntmps33
        go_wp2
        go_ret
        exact ⟨by first | rfl | (simp; done) | (simp [*]; done) | (simp [bne_nil_]; done), by repeat (first | exact Drawn0.refl _ | apply Drawn0.step)⟩
    · rw [if_neg c3] at H
      exact absurd H (by simp)

/-! ### spec_TokenKnown: function 22 -/
def spec_TokenKnown.j0 : Nat → Bool → ByteArray → ByteArray → Bool → Option (Bool)
  | 0, _, _, _, _ => none
  | k + 1, x25, x104000, x104001, x104002 => if x25 = true then (some false) else ((spec_allDigits.f k x104001).bind fun t107 => (if t107 = true then (if (x104001.size : Int) = 1 then (some true) else (if 0 < (x104001.size : Int) then (some ((bt x104001 0) != 48)) else (none))) else ((spec_mavenLetters.f x104001).bind fun t108 => (some t108))))
def spec_TokenKnown.f (k : Nat) (a0_0 : ByteArray) (a0_1 : ByteArray) (a0_2 : Bool) : Option (Bool) := if a0_2 = true then (spec_TokenKnown.j0 k true a0_0 a0_1 a0_2) else (if a0_0.toList = ([] : List UInt8) then ((spec_Ascii.f k a0_1).bind fun t104 => (spec_TokenKnown.j0 k (!t104) a0_0 a0_1 a0_2)) else (if a0_0.toList = ([46] : List UInt8) then ((spec_Ascii.f k a0_1).bind fun t105 => (spec_TokenKnown.j0 k (!t105) a0_0 a0_1 a0_2)) else (if a0_0.toList = ([45] : List UInt8) then ((spec_Ascii.f k a0_1).bind fun t106 => (spec_TokenKnown.j0 k (!t106) a0_0 a0_1 a0_2)) else (spec_TokenKnown.j0 k true a0_0 a0_1 a0_2))))
theorem spec_TokenKnown.mono_l : ∀ k, (∀ y0 y1 y2 y3, LeO (spec_TokenKnown.j0 k y0 y1 y2 y3) (spec_TokenKnown.j0 (k + 1) y0 y1 y2 y3))
  | 0 => fun _ _ _ _ r h => by simp [spec_TokenKnown.j0] at h
  | k + 1 => by
    have ih0 := spec_TokenKnown.mono_l k
    · intro y0 y1 y2 y3
      unfold spec_TokenKnown.j0
      repeat' first
      | (with_reducible exact ih0 _ _ _ _)
      | (with_reducible exact spec_Ascii.mono _ _)
      | (with_reducible exact spec_allDigits.mono _ _)
      | (with_reducible exact LeO.refl _)
      | (with_reducible exact LeO.none _)
      | (with_reducible refine LeO.ite ?_ ?_)
      | (with_reducible refine LeO.bind ?_ (fun _ => ?_))
      | exact ih0 _ _ _ _
      | exact spec_Ascii.mono _ _
      | exact spec_allDigits.mono _ _
      | exact LeO.none _
      | refine LeO.ite ?_ ?_
      | refine LeO.bind ?_ (fun _ => ?_)
theorem spec_TokenKnown.mono : ∀ a0 a1 a2 k, LeO (spec_TokenKnown.f k a0 a1 a2) (spec_TokenKnown.f (k + 1) a0 a1 a2) := by
  intro a0 a1 a2 k
  have ih0 := spec_TokenKnown.mono_l k
  unfold spec_TokenKnown.f
  repeat' first
      | (with_reducible exact ih0 _ _ _ _)
      | (with_reducible exact spec_Ascii.mono _ _)
      | (with_reducible exact spec_allDigits.mono _ _)
      | (with_reducible exact LeO.refl _)
      | (with_reducible exact LeO.none _)
      | (with_reducible refine LeO.ite ?_ ?_)
      | (with_reducible refine LeO.bind ?_ (fun _ => ?_))
      | exact ih0 _ _ _ _
      | exact spec_Ascii.mono _ _
      | exact spec_allDigits.mono _ _
      | exact LeO.none _
      | refine LeO.ite ?_ ?_
      | refine LeO.bind ?_ (fun _ => ?_)
set_option maxHeartbeats 8000000 in
set_option maxRecDepth 100000 in
theorem spec_TokenKnown.calls (k : Nat) (a0_0 : ByteArray) (a0_1 : ByteArray) (a0_2 : Bool) (r : Bool) (w : World) (h : spec_TokenKnown.f k a0_0 a0_1 a0_2 = some r) :
    Calls Tryd.prog 22 #[.agg #[.string a0_0, .string a0_1, .bool a0_2]] w fun e w' => e = .returned (.bool r) ∧ Below w.heap.size w w' := by
  have hu31 := Tryd.underlying31
  have HB := Aside0.mk (Below.refl w.heap.size w)
  have H : (if a0_2 = true then (spec_TokenKnown.j0 k true a0_0 a0_1 a0_2) else (if a0_0.toList = ([] : List UInt8) then ((spec_Ascii.f k a0_1).bind fun t104 => (spec_TokenKnown.j0 k (!t104) a0_0 a0_1 a0_2)) else (if a0_0.toList = ([46] : List UInt8) then ((spec_Ascii.f k a0_1).bind fun t105 => (spec_TokenKnown.j0 k (!t105) a0_0 a0_1 a0_2)) else (if a0_0.toList = ([45] : List UInt8) then ((spec_Ascii.f k a0_1).bind fun t106 => (spec_TokenKnown.j0 k (!t106) a0_0 a0_1 a0_2)) else (spec_TokenKnown.j0 k true a0_0 a0_1 a0_2))))) = some r := h
  clear h
  have HC2 := Aside0.mk H
  clear H
  go_enter Tryd.func22, Tryd.ntmps22
  go_upto_region 1 with (first | ((with_reducible refine gate_dst (N := 1) rfl ?_); refine box_event ?hg (N := 1) ?hd (cs := #[.string a0_0, .string a0_1, .bool a0_2]) (t := 31) ?hr ?_; (case hd => rfl); (case hg => rfl); (case hr => first | (go_simp; done) | (go_simp; rfl)); intro gb103 hg w3 hbox hb; have n0_ := Aside0.mk (below_step (by repeat (first | (with_reducible first | exact HB.out | apply below_alloc | apply pw_below_drewN | apply below_drew1) | exact HB.out)) hb); have n1_ := Aside0.mk (hbox); have n2_ := Aside0.mk ((by rw [hg]; exact (below_size (by repeat (first | (with_reducible first | exact HB.out | apply below_alloc | apply pw_below_drewN | apply below_drew1) | exact HB.out))) : w.heap.size ≤ gb103)); have n3_ := Aside0.mk ((by rw [hg]; exact (below_size (by repeat (first | (with_reducible first | exact HB.out | apply below_alloc | apply pw_below_drewN | apply below_drew1) | exact HB.out))) : w.heap.size ≤ gb103)); clear HB; have HB := n0_; have BK103 := n1_; have GW103 := n2_; have GE103 := n3_; clear n0_ n1_ n2_ n3_; clear hb hbox hg))
  (try simp only [Act.put, List.setIfInBounds_toArray, List.set_cons_zero, List.set_cons_succ])
  go_cut [25] (fun v25 wc => ∃ (kq : Nat) (x25_1 : Bool), v25 = .bool x25_1 ∧ Aside0 (spec_TokenKnown.j0 kq x25_1 a0_0 a0_1 a0_2 = some r) ∧ Aside0 (kq ≤ k) ∧ Aside0 (wc.heap[gb103]? = some (.cells #[.string a0_0, .string a0_1, .bool a0_2] 31 (0, 0))) ∧ Aside0 (Below w.heap.size w wc))
  case first =>
    have H := HC2.out
    clear HC2
    by_cases c4 : a0_2 = true
    · subst c4
      have H1 : (spec_TokenKnown.j0 k true a0_0 a0_1 true) = some r := by rw [if_pos rfl] at H; exact H
      clear H
      have H := H1
      clear H1
      have H' := Aside0.mk H
      clear H
      have hcz5_0 : w3.cell? ⟨gb103, 0, none⟩ = some (.string a0_0) := (blk_cell BK103.out 0).trans rfl
      have hcz5_1 : w3.cell? ⟨gb103, 1, none⟩ = some (.string a0_1) := (blk_cell BK103.out 1).trans rfl
      have hcz5_2 : w3.cell? ⟨gb103, 2, none⟩ = some (.bool true) := (blk_cell BK103.out 2).trans rfl
      have hfz5_0 := blk_frozen BK103.out 0
      have hfz5_1 := blk_frozen BK103.out 1
      have hfz5_2 := blk_frozen BK103.out 2
      go_wp2
      go_meet
      case rel => exact ⟨_, (true), (by first | rfl | (simp; done) | (simp [*]; done) | (simp [bne_nil_]; done)), H', ⟨by first | omega | exact Nat.le_refl _⟩, ⟨by (with_reducible repeat (first | refine blk_drewN ?_ _ | refine blk_drew ?_ | refine blk_alloc ?_ _)); exact BK103.out⟩, ⟨by repeat (first | (with_reducible first | exact HB.out | apply below_alloc | apply pw_below_drewN | apply below_drew1 | refine below_set ?_ GE103.out) | exact HB.out)⟩⟩
    · replace c4 := Bool.eq_false_iff.mpr c4
      subst c4
      have H1 : (if a0_0.toList = ([] : List UInt8) then ((spec_Ascii.f k a0_1).bind fun t104 => (spec_TokenKnown.j0 k (!t104) a0_0 a0_1 false)) else (if a0_0.toList = ([46] : List UInt8) then ((spec_Ascii.f k a0_1).bind fun t105 => (spec_TokenKnown.j0 k (!t105) a0_0 a0_1 false)) else (if a0_0.toList = ([45] : List UInt8) then ((spec_Ascii.f k a0_1).bind fun t106 => (spec_TokenKnown.j0 k (!t106) a0_0 a0_1 false)) else (spec_TokenKnown.j0 k true a0_0 a0_1 false)))) = some r := by rw [if_neg (show ¬ (false = true) by decide)] at H; exact H
      clear H
      have H := H1
      clear H1
      by_cases c6 : a0_0.toList = ([] : List UInt8)
      · rw [if_pos c6] at H
        have c6b0 : (a0_0.toList == ([] : List UInt8)) = true := beq_iff_eq.mpr c6
        have c6b1 : (a0_0.toList != ([] : List UInt8)) = false := bne_eq_false_iff_eq.mpr c6
        clear c6
        (first | rw [c6b0] | (simp only [i64_w, i32_w]; rw [c6b0]) | skip)
        replace H := Option.bind_eq_some_iff.mp H
        obtain ⟨t104, A70, H⟩ := H
        replace H : (spec_TokenKnown.j0 k (!t104) a0_0 a0_1 false) = some r := H
        have A7 := Aside0.mk A70
        clear A70
        have H' := Aside0.mk H
        clear H
        have hcz8_0 : w3.cell? ⟨gb103, 0, none⟩ = some (.string a0_0) := (blk_cell BK103.out 0).trans rfl
        have hcz8_1 : w3.cell? ⟨gb103, 1, none⟩ = some (.string a0_1) := (blk_cell BK103.out 1).trans rfl
        have hcz8_2 : w3.cell? ⟨gb103, 2, none⟩ = some (.bool false) := (blk_cell BK103.out 2).trans rfl
        have hfz8_0 := blk_frozen BK103.out 0
        have hfz8_1 := blk_frozen BK103.out 1
        have hfz8_2 := blk_frozen BK103.out 2
        go_wp2_with (first | (go_at_call 32; (with_reducible refine (spec_Ascii.calls k a0_1 t104 _ A7.out).mono ?_); rintro e w' ⟨rfl, ⟨nd, rfl⟩⟩))
        go_meet
        case rel => exact ⟨_, (!t104), (by first | rfl | (simp; done) | (simp [*]; done) | (simp [bne_nil_]; done)), H', ⟨by first | omega | exact Nat.le_refl _⟩, ⟨by (with_reducible repeat (first | refine blk_drewN ?_ _ | refine blk_drew ?_ | refine blk_alloc ?_ _)); exact BK103.out⟩, ⟨by repeat (first | (with_reducible first | exact HB.out | apply below_alloc | apply pw_below_drewN | apply below_drew1 | refine below_set ?_ GE103.out) | exact HB.out)⟩⟩
      · rw [if_neg c6] at H
        have c6b0 : (a0_0.toList == ([] : List UInt8)) = false := beq_eq_false_iff_ne.mpr c6
        have c6b1 : (a0_0.toList != ([] : List UInt8)) = true := bne_iff_ne.mpr c6
        (first | rw [c6b0] | (simp only [i64_w, i32_w]; rw [c6b0]) | skip)
        by_cases c9 : a0_0.toList = ([46] : List UInt8)
        · rw [if_pos c9] at H
          have c9b0 : (a0_0.toList == ([46] : List UInt8)) = true := beq_iff_eq.mpr c9
          have c9b1 : (a0_0.toList != ([46] : List UInt8)) = false := bne_eq_false_iff_eq.mpr c9
          clear c9
          replace H := Option.bind_eq_some_iff.mp H
          obtain ⟨t105, A100, H⟩ := H
          replace H : (spec_TokenKnown.j0 k (!t105) a0_0 a0_1 false) = some r := H
          have A10 := Aside0.mk A100
          clear A100
          have H' := Aside0.mk H
          clear H
          have hcz11_0 : w3.cell? ⟨gb103, 0, none⟩ = some (.string a0_0) := (blk_cell BK103.out 0).trans rfl
          have hcz11_1 : w3.cell? ⟨gb103, 1, none⟩ = some (.string a0_1) := (blk_cell BK103.out 1).trans rfl
          have hcz11_2 : w3.cell? ⟨gb103, 2, none⟩ = some (.bool false) := (blk_cell BK103.out 2).trans rfl
          have hfz11_0 := blk_frozen BK103.out 0
          have hfz11_1 := blk_frozen BK103.out 1
          have hfz11_2 := blk_frozen BK103.out 2
          go_wp2_with (first | (go_at_call 32; (with_reducible refine (spec_Ascii.calls k a0_1 t105 _ A10.out).mono ?_); rintro e w' ⟨rfl, ⟨nd, rfl⟩⟩))
          go_meet
          case rel => exact ⟨_, (!t105), (by first | rfl | (simp; done) | (simp [*]; done) | (simp [bne_nil_]; done)), H', ⟨by first | omega | exact Nat.le_refl _⟩, ⟨by (with_reducible repeat (first | refine blk_drewN ?_ _ | refine blk_drew ?_ | refine blk_alloc ?_ _)); exact BK103.out⟩, ⟨by repeat (first | (with_reducible first | exact HB.out | apply below_alloc | apply pw_below_drewN | apply below_drew1 | refine below_set ?_ GE103.out) | exact HB.out)⟩⟩
        · rw [if_neg c9] at H
          have c9b0 : (a0_0.toList == ([46] : List UInt8)) = false := beq_eq_false_iff_ne.mpr c9
          have c9b1 : (a0_0.toList != ([46] : List UInt8)) = true := bne_iff_ne.mpr c9
          by_cases c12 : a0_0.toList = ([45] : List UInt8)
          · rw [if_pos c12] at H
            have c12b0 : (a0_0.toList == ([45] : List UInt8)) = true := beq_iff_eq.mpr c12
            have c12b1 : (a0_0.toList != ([45] : List UInt8)) = false := bne_eq_false_iff_eq.mpr c12
            clear c12
            replace H := Option.bind_eq_some_iff.mp H
            obtain ⟨t106, A130, H⟩ := H
            replace H : (spec_TokenKnown.j0 k (!t106) a0_0 a0_1 false) = some r := H
            have A13 := Aside0.mk A130
            clear A130
            have H' := Aside0.mk H
            clear H
            have hcz14_0 : w3.cell? ⟨gb103, 0, none⟩ = some (.string a0_0) := (blk_cell BK103.out 0).trans rfl
            have hcz14_1 : w3.cell? ⟨gb103, 1, none⟩ = some (.string a0_1) := (blk_cell BK103.out 1).trans rfl
            have hcz14_2 : w3.cell? ⟨gb103, 2, none⟩ = some (.bool false) := (blk_cell BK103.out 2).trans rfl
            have hfz14_0 := blk_frozen BK103.out 0
            have hfz14_1 := blk_frozen BK103.out 1
            have hfz14_2 := blk_frozen BK103.out 2
            go_wp2_with (first | (go_at_call 32; (with_reducible refine (spec_Ascii.calls k a0_1 t106 _ A13.out).mono ?_); rintro e w' ⟨rfl, ⟨nd, rfl⟩⟩))
            go_meet
            case rel => exact ⟨_, (!t106), (by first | rfl | (simp; done) | (simp [*]; done) | (simp [bne_nil_]; done)), H', ⟨by first | omega | exact Nat.le_refl _⟩, ⟨by (with_reducible repeat (first | refine blk_drewN ?_ _ | refine blk_drew ?_ | refine blk_alloc ?_ _)); exact BK103.out⟩, ⟨by repeat (first | (with_reducible first | exact HB.out | apply below_alloc | apply pw_below_drewN | apply below_drew1 | refine below_set ?_ GE103.out) | exact HB.out)⟩⟩
          · rw [if_neg c12] at H
            have c12b0 : (a0_0.toList == ([45] : List UInt8)) = false := beq_eq_false_iff_ne.mpr c12
            have c12b1 : (a0_0.toList != ([45] : List UInt8)) = true := bne_iff_ne.mpr c12
            have H' := Aside0.mk H
            clear H
            have hcz15_0 : w3.cell? ⟨gb103, 0, none⟩ = some (.string a0_0) := (blk_cell BK103.out 0).trans rfl
            have hcz15_1 : w3.cell? ⟨gb103, 1, none⟩ = some (.string a0_1) := (blk_cell BK103.out 1).trans rfl
            have hcz15_2 : w3.cell? ⟨gb103, 2, none⟩ = some (.bool false) := (blk_cell BK103.out 2).trans rfl
            have hfz15_0 := blk_frozen BK103.out 0
            have hfz15_1 := blk_frozen BK103.out 1
            have hfz15_2 := blk_frozen BK103.out 2
            go_wp2
            go_meet
            case rel => exact ⟨_, (true), (by first | rfl | (simp; done) | (simp [*]; done) | (simp [bne_nil_]; done)), H', ⟨by first | omega | exact Nat.le_refl _⟩, ⟨by (with_reducible repeat (first | refine blk_drewN ?_ _ | refine blk_drew ?_ | refine blk_alloc ?_ _)); exact BK103.out⟩, ⟨by repeat (first | (with_reducible first | exact HB.out | apply below_alloc | apply pw_below_drewN | apply below_drew1 | refine below_set ?_ GE103.out) | exact HB.out)⟩⟩
  case rest =>
    clear HC2
    try clear c1
    try clear c2
    try clear p2
    try clear c4
    try clear c6
    try clear c6b0
    try clear c6b1
    try clear c9
    try clear c9b0
    try clear c9b1
    try clear c12
    try clear c12b0
    try clear c12b1
    try clear hcz11_0
    try clear hcz11_1
    try clear hcz11_2
    try clear hcz14_0
    try clear hcz14_1
    try clear hcz14_2
    try clear hcz15_0
    try clear hcz15_1
    try clear hcz15_2
    try clear hcz5_0
    try clear hcz5_1
    try clear hcz5_2
    try clear hcz8_0
    try clear hcz8_1
    try clear hcz8_2
    try clear hfz11_0
    try clear hfz11_1
    try clear hfz11_2
    try clear hfz14_0
    try clear hfz14_1
    try clear hfz14_2
    try clear hfz15_0
    try clear hfz15_1
    try clear hfz15_2
    try clear hfz5_0
    try clear hfz5_1
    try clear hfz5_2
    try clear hfz8_0
    try clear hfz8_1
    try clear hfz8_2
    obtain ⟨kq, x25_1, rfl, HA, HJ1, BK103, HB⟩ := hcut
    cases kq with
    | zero => exact absurd HA.out (by simp [spec_TokenKnown.j0])
    | succ kj1 =>
      have H := HA.out
      clear HA
      simp only [spec_TokenKnown.j0] at H
      by_cases c16 : x25_1 = true
      · subst c16
        have H1 : (some false) = some r := by rw [if_pos rfl] at H; exact H
        clear H
        have H := H1
        clear H1
        obtain rfl := Option.some.inj H
        go_wp2
        go_ret
        exact ⟨by first | rfl | (simp [errW_none, errW_some] <;> rfl) | (simp [*, errW_none, errW_some] <;> rfl) | (simp [bne_nil_]; done), by repeat (first | (with_reducible first | exact HB.out | apply below_alloc | apply pw_below_drewN | apply below_drew1 | refine below_set ?_ GE103.out) | exact HB.out)⟩
      · replace c16 := Bool.eq_false_iff.mpr c16
        subst c16
        have H1 : ((spec_allDigits.f kj1 a0_1).bind fun t107 => (if t107 = true then (if (a0_1.size : Int) = 1 then (some true) else (if 0 < (a0_1.size : Int) then (some ((bt a0_1 0) != 48)) else (none))) else ((spec_mavenLetters.f a0_1).bind fun t108 => (some t108)))) = some r := by rw [if_neg (show ¬ (false = true) by decide)] at H; exact H
        clear H
        have H := H1
        clear H1
        replace H := Option.bind_eq_some_iff.mp H
        obtain ⟨t107, A170, H⟩ := H
        replace H : (if t107 = true then (if (a0_1.size : Int) = 1 then (some true) else (if 0 < (a0_1.size : Int) then (some ((bt a0_1 0) != 48)) else (none))) else ((spec_mavenLetters.f a0_1).bind fun t108 => (some t108))) = some r := H
        have A17 := Aside0.mk A170
        clear A170
        by_cases c18 : t107 = true
        · subst c18
          have H1 : (if (a0_1.size : Int) = 1 then (some true) else (if 0 < (a0_1.size : Int) then (some ((bt a0_1 0) != 48)) else (none))) = some r := by rw [if_pos rfl] at H; exact H
          clear H
          have H := H1
          clear H1
          by_cases c19 : (a0_1.size : Int) = 1
          · rw [if_pos c19] at H
            have c19b0 : ((a0_1.size : Int) == 1) = true := beq_iff_eq.mpr c19
            have c19b1 : ((a0_1.size : Int) != 1) = false := bne_eq_false_iff_eq.mpr c19
            clear c19
            obtain rfl := Option.some.inj H
            have hcz20_0 : wc.cell? ⟨gb103, 0, none⟩ = some (.string a0_0) := (blk_cell BK103.out 0).trans rfl
            have hcz20_1 : wc.cell? ⟨gb103, 1, none⟩ = some (.string a0_1) := (blk_cell BK103.out 1).trans rfl
            have hcz20_2 : wc.cell? ⟨gb103, 2, none⟩ = some (.bool a0_2) := (blk_cell BK103.out 2).trans rfl
            have hfz20_0 := blk_frozen BK103.out 0
            have hfz20_1 := blk_frozen BK103.out 1
            have hfz20_2 := blk_frozen BK103.out 2
            go_wp2_with (first | ((with_reducible refine gate_callee (f := 25) rfl ?_); refine goesL_ (some 28) rfl rfl Tryd.func25 (by kernel_rfl) rfl #[.string a0_1] rfl (by (try simp only [List.map_toArray, List.map_cons, List.map_nil]); first | done | rfl | (simp only [List.length_drop, List.length_take]; rfl)) ?_; (with_reducible refine (spec_allDigits.calls kj1 a0_1 true _ A17.out).mono ?_); rintro e w' ⟨rfl, ⟨nd, rfl⟩⟩; refine ⟨_, rfl, ?_⟩))
            go_ret
            exact ⟨by first | rfl | (simp [errW_none, errW_some] <;> rfl) | (simp [*, errW_none, errW_some] <;> rfl) | (simp [bne_nil_]; done), by repeat (first | (with_reducible first | exact HB.out | apply below_alloc | apply pw_below_drewN | apply below_drew1 | refine below_set ?_ GE103.out) | exact HB.out)⟩
          · rw [if_neg c19] at H
            have c19b0 : ((a0_1.size : Int) == 1) = false := beq_eq_false_iff_ne.mpr c19
            have c19b1 : ((a0_1.size : Int) != 1) = true := bne_iff_ne.mpr c19
            by_cases c21 : 0 < (a0_1.size : Int)
            · rw [if_pos c21] at H
              have c21b0 : decide (0 < (a0_1.size : Int)) = true := decide_eq_true c21
              have c21b1 : decide (0 < a0_1.size) = true := decide_eq_true (by omega)
              clear c21
              obtain rfl := Option.some.inj H
              have hcz23_0 : wc.cell? ⟨gb103, 0, none⟩ = some (.string a0_0) := (blk_cell BK103.out 0).trans rfl
              have hcz23_1 : wc.cell? ⟨gb103, 1, none⟩ = some (.string a0_1) := (blk_cell BK103.out 1).trans rfl
              have hcz23_2 : wc.cell? ⟨gb103, 2, none⟩ = some (.bool a0_2) := (blk_cell BK103.out 2).trans rfl
              have hfz23_0 := blk_frozen BK103.out 0
              have hfz23_1 := blk_frozen BK103.out 1
              have hfz23_2 := blk_frozen BK103.out 2
              go_wp2_with (first | ((with_reducible refine gate_callee (f := 25) rfl ?_); refine goesL_ (some 28) rfl rfl Tryd.func25 (by kernel_rfl) rfl #[.string a0_1] rfl (by (try simp only [List.map_toArray, List.map_cons, List.map_nil]); first | done | rfl | (simp only [List.length_drop, List.length_take]; rfl)) ?_; (with_reducible refine (spec_allDigits.calls kj1 a0_1 true _ A17.out).mono ?_); rintro e w' ⟨rfl, ⟨nd, rfl⟩⟩; refine ⟨_, rfl, ?_⟩; have p22 : 0 ≤ (0 : Int) := (by omega); have q22 : 0 < a0_1.size := (by have : (0 : Int) < (a0_1.size : Int) := of_decide_eq_true (by first | (with_reducible assumption) | assumption); omega); have hx22 : ∀ h : 0 < a0_1.size, ((a0_1[0]'h).toNat : Int) = bt a0_1 0 := bt_at a0_1 0; clear p22; have qi22 : (0 < (a0_1.size : Int)) = True := eq_true (of_decide_eq_true (by first | (with_reducible assumption) | assumption)); replace q22 := eq_true q22))
              go_ret
              exact ⟨by first | rfl | (simp [errW_none, errW_some] <;> rfl) | (simp [*, errW_none, errW_some] <;> rfl) | (simp [bne_nil_]; done), by repeat (first | (with_reducible first | exact HB.out | apply below_alloc | apply pw_below_drewN | apply below_drew1 | refine below_set ?_ GE103.out) | exact HB.out)⟩
            · rw [if_neg c21] at H
              exact absurd H (by simp)
        · replace c18 := Bool.eq_false_iff.mpr c18
          subst c18
          have H1 : ((spec_mavenLetters.f a0_1).bind fun t108 => (some t108)) = some r := by rw [if_neg (show ¬ (false = true) by decide)] at H; exact H
          clear H
          have H := H1
          clear H1
          replace H := Option.bind_eq_some_iff.mp H
          obtain ⟨t108, A240, H⟩ := H
          replace H : (some t108) = some r := H
          have A24 := Aside0.mk A240
          clear A240
          obtain rfl := Option.some.inj H
          have hcz25_0 : wc.cell? ⟨gb103, 0, none⟩ = some (.string a0_0) := (blk_cell BK103.out 0).trans rfl
          have hcz25_1 : wc.cell? ⟨gb103, 1, none⟩ = some (.string a0_1) := (blk_cell BK103.out 1).trans rfl
          have hcz25_2 : wc.cell? ⟨gb103, 2, none⟩ = some (.bool a0_2) := (blk_cell BK103.out 2).trans rfl
          have hfz25_0 := blk_frozen BK103.out 0
          have hfz25_1 := blk_frozen BK103.out 1
          have hfz25_2 := blk_frozen BK103.out 2
          go_wp2_with (first | ((with_reducible refine gate_callee (f := 25) rfl ?_); refine goesL_ (some 28) rfl rfl Tryd.func25 (by kernel_rfl) rfl #[.string a0_1] rfl (by (try simp only [List.map_toArray, List.map_cons, List.map_nil]); first | done | rfl | (simp only [List.length_drop, List.length_take]; rfl)) ?_; (with_reducible refine (spec_allDigits.calls kj1 a0_1 false _ A17.out).mono ?_); rintro e w' ⟨rfl, ⟨nd, rfl⟩⟩; refine ⟨_, rfl, ?_⟩) | ((with_reducible refine gate_callee (f := 33) rfl ?_); refine goesL_ (some 41) rfl rfl Tryd.func33 (by kernel_rfl) rfl #[.string a0_1] rfl (by (try simp only [List.map_toArray, List.map_cons, List.map_nil]); first | done | rfl | (simp only [List.length_drop, List.length_take]; rfl)) ?_; (with_reducible refine (spec_mavenLetters.calls a0_1 t108 _ A24.out).mono ?_); rintro e w' ⟨rfl, ⟨nd, rfl⟩⟩; refine ⟨_, rfl, ?_⟩))
          go_ret
          exact ⟨by first | rfl | (simp [errW_none, errW_some] <;> rfl) | (simp [*, errW_none, errW_some] <;> rfl) | (simp [bne_nil_]; done), by repeat (first | (with_reducible first | exact HB.out | apply below_alloc | apply pw_below_drewN | apply below_drew1 | refine below_set ?_ GE103.out) | exact HB.out)⟩

/-! ### spec_MavenKnown: function 15 -/
def spec_MavenKnown.l0 : Nat → List (S31) → Int → Option (Bool)
  | 0, _, _ => none
  | k + 1, x0, x3 => if x3 < (x0.length : Int) then (if 0 ≤ x3 then ((spec_TokenKnown.f k ((rd_T31 x0 x3).f0) ((rd_T31 x0 x3).f1) ((rd_T31 x0 x3).f2)).bind fun t110 => (if t110 = true then (if ((((rd_T31 x0 x3).f0).toList == ([] : List UInt8)) != (x3 == 0)) = true then (some false) else (spec_MavenKnown.l0 k x0 (wrap64 (x3 + 1)))) else (some false))) else (none)) else (some (decide ((x0.length : Int) > 0)))
def spec_MavenKnown.f (k : Nat) (l0 : List (S31)) : Option (Bool) := spec_MavenKnown.l0 k l0 0
theorem spec_MavenKnown.mono_l : ∀ k, (∀ y0 y1, LeO (spec_MavenKnown.l0 k y0 y1) (spec_MavenKnown.l0 (k + 1) y0 y1))
  | 0 => fun _ _ r h => by simp [spec_MavenKnown.l0] at h
  | k + 1 => by
    have ih0 := spec_MavenKnown.mono_l k
    · intro y0 y1
      unfold spec_MavenKnown.l0
      repeat' first
      | (with_reducible exact ih0 _ _)
      | (with_reducible exact spec_TokenKnown.mono _ _ _ _)
      | (with_reducible exact LeO.refl _)
      | (with_reducible exact LeO.none _)
      | (with_reducible refine LeO.ite ?_ ?_)
      | (with_reducible refine LeO.bind ?_ (fun _ => ?_))
      | exact ih0 _ _
      | exact spec_TokenKnown.mono _ _ _ _
      | exact LeO.none _
      | refine LeO.ite ?_ ?_
      | refine LeO.bind ?_ (fun _ => ?_)
theorem spec_MavenKnown.mono : ∀ a0 k, LeO (spec_MavenKnown.f k a0) (spec_MavenKnown.f (k + 1) a0) := by
  intro a0 k
  have ih0 := spec_MavenKnown.mono_l k
  unfold spec_MavenKnown.f
  repeat' first
      | (with_reducible exact ih0 _ _)
      | (with_reducible exact spec_TokenKnown.mono _ _ _ _)
      | (with_reducible exact LeO.refl _)
      | (with_reducible exact LeO.none _)
      | (with_reducible refine LeO.ite ?_ ?_)
      | (with_reducible refine LeO.bind ?_ (fun _ => ?_))
      | exact ih0 _ _
      | exact spec_TokenKnown.mono _ _ _ _
      | exact LeO.none _
      | refine LeO.ite ?_ ?_
      | refine LeO.bind ?_ (fun _ => ?_)
set_option maxHeartbeats 8000000 in
set_option maxRecDepth 100000 in
theorem spec_MavenKnown.calls (k : Nat) (A0 : Option Addr) (c0 : Nat) (l0 : List (S31)) (r : Bool) (w : World) (hr0 : Kd.C k31 w A0 l0.length l0) (hc0 : l0.length ≤ c0) (h : spec_MavenKnown.f k l0 = some r) :
    Calls Tryd.prog 15 #[.slice A0 l0.length c0] w fun e w' => e = .returned (.bool r) ∧ Below w.heap.size w w' := by
  have hu31 := Tryd.underlying31
  have HR0 := Aside0.mk hr0
  have HC0 := Aside0.mk hc0
  clear hr0 hc0
  have HB := Aside0.mk (Below.refl w.heap.size w)
  have H : (spec_MavenKnown.l0 k l0 0) = some r := h
  clear h
  have H' := Aside0.mk H
  clear H
  go_enter Tryd.func15, Tryd.ntmps15
  go_wp2
  go_loopg [3] k (fun kq v3 w' => ∃ (x3_1 : Int), v3 = .int .i64 x3_1 ∧ Aside0 (spec_MavenKnown.l0 kq l0 x3_1 = some r) ∧ Aside0 (kq ≤ k) ∧ Aside0 (Below w.heap.size w w'))
  case atStart => exact ⟨(0), (by first | rfl | (simp; done) | (simp [*]; done) | (simp [bne_nil_]; done)), H', ⟨Nat.le_refl _⟩, ⟨by repeat (first | (with_reducible first | exact HB.out | apply below_alloc | apply pw_below_drewN | apply below_drew1) | exact HB.out)⟩⟩
  case round =>
    clear H'
    try clear c1
    obtain ⟨x3_1, rfl, HA, HK1, HB⟩ := hrel
    cases gk with
    | zero => exact absurd HA.out (by simp [spec_MavenKnown.l0])
    | succ k1 =>
      have H := HA.out
      clear HA
      simp only [spec_MavenKnown.l0] at H
      by_cases c2 : x3_1 < (l0.length : Int)
      · rw [if_pos c2] at H
        have c2b0 : decide (x3_1 < (l0.length : Int)) = true := decide_eq_true c2
        clear c2
        by_cases c3 : 0 ≤ x3_1
        · rw [if_pos c3] at H
          have c3b0 : decide (0 ≤ x3_1) = true := decide_eq_true c3
          clear c3
          replace H := Option.bind_eq_some_iff.mp H
          obtain ⟨t110, A40, H⟩ := H
          replace H : (if t110 = true then (if ((((rd_T31 l0 x3_1).f0).toList == ([] : List UInt8)) != (x3_1 == 0)) = true then (some false) else (spec_MavenKnown.l0 k1 l0 (wrap64 (x3_1 + 1)))) else (some false)) = some r := H
          have A4 := Aside0.mk A40
          clear A40
          by_cases c5 : t110 = true
          · subst c5
            have H1 : (if ((((rd_T31 l0 x3_1).f0).toList == ([] : List UInt8)) != (x3_1 == 0)) = true then (some false) else (spec_MavenKnown.l0 k1 l0 (wrap64 (x3_1 + 1)))) = some r := by rw [if_pos rfl] at H; exact H
            clear H
            have H := H1
            clear H1
            by_cases c6 : ((((rd_T31 l0 x3_1).f0).toList == ([] : List UInt8)) != (x3_1 == 0)) = true
            · rw [if_pos c6] at H
              have c6b0 : ((((rd_T31 l0 x3_1).f0).toList == ([] : List UInt8)) != (x3_1 == 0)) = true := c6
              have c6b8 : (!(((rd_T31 l0 x3_1).f0).toList.isEmpty) == (x3_1 == 0)) = true := by
                have e_ : (((rd_T31 l0 x3_1).f0).toList == ([] : List UInt8)) = ((rd_T31 l0 x3_1).f0).toList.isEmpty := by cases ((rd_T31 l0 x3_1).f0).toList <;> rfl
                have h_ := c6b0
                rw [e_] at h_
                revert h_
                cases ((rd_T31 l0 x3_1).f0).toList.isEmpty <;> cases (x3_1 == 0) <;> decide
              (try (have c6b1 : decide ((((rd_T31 l0 x3_1).f0).toList == ([] : List UInt8)) = (x3_1 == 0)) = false := by simpa using c6))
              (try (have c6b2 : ((((rd_T31 l0 x3_1).f0).toList == ([] : List UInt8)) == (x3_1 == 0)) = false := by simpa using c6))
              (try (have c6b3 : ¬ ((((rd_T31 l0 x3_1).f0).toList == ([] : List UInt8)) = (x3_1 == 0)) := by simpa using c6))
              clear c6
              obtain rfl := Option.some.inj H
              have p109 : 0 ≤ (x3_1 : Int) := of_decide_eq_true (by first | (with_reducible assumption) | assumption)
              have q109 : x3_1 < (l0.length : Int) := of_decide_eq_true (by first | (with_reducible assumption) | assumption)
              obtain ⟨ad109, e109, hx109_0, hx109_1, hx109_2⟩ := at_T31 HR0.out x3_1 p109 q109
              cases e109
              replace hx109_0 := (HB.out.cell (World.block_lt_of_cell? w _ hx109_0)).trans hx109_0
              replace hx109_1 := (HB.out.cell (World.block_lt_of_cell? w _ hx109_1)).trans hx109_1
              replace hx109_2 := (HB.out.cell (World.block_lt_of_cell? w _ hx109_2)).trans hx109_2
              replace p109 := eq_true p109
              replace q109 := eq_true q109
              go_wp2_with (first | ((with_reducible refine gate_callee (f := 22) rfl ?_); refine goesL_ (some 14) rfl rfl Tryd.func22 (by kernel_rfl) rfl #[.agg #[.string ((rd_T31 l0 x3_1).f0), .string ((rd_T31 l0 x3_1).f1), .bool ((rd_T31 l0 x3_1).f2)]] rfl (by (try simp only [List.map_toArray, List.map_cons, List.map_nil]); first | done | rfl | (simp only [List.length_drop, List.length_take]; rfl)) ?_; (with_reducible refine (spec_TokenKnown.calls k1 ((rd_T31 l0 x3_1).f0) ((rd_T31 l0 x3_1).f1) ((rd_T31 l0 x3_1).f2) true _ A4.out).mono ?_); rintro e w7 ⟨rfl, hb⟩; refine ⟨_, rfl, ?_⟩; have n0_ := Aside0.mk (below_step (by repeat (first | (with_reducible first | exact HB.out | apply below_alloc | apply pw_below_drewN | apply below_drew1) | exact HB.out)) hb); clear HB; have HB := n0_; clear n0_; (try clear hb); (try clear hb2); (try clear hk); (try clear hi); have p111 : 0 ≤ (x3_1 : Int) := of_decide_eq_true (by first | (with_reducible assumption) | assumption); have q111 : x3_1 < (l0.length : Int) := of_decide_eq_true (by first | (with_reducible assumption) | assumption); obtain ⟨ad111, e111, hx111_0, hx111_1, hx111_2⟩ := at_T31 HR0.out x3_1 p111 q111; obtain rfl : ad109 = ad111 := (by injection e111); replace hx111_0 := (HB.out.cell (World.block_lt_of_cell? w _ hx111_0)).trans hx111_0; replace hx111_1 := (HB.out.cell (World.block_lt_of_cell? w _ hx111_1)).trans hx111_1; replace hx111_2 := (HB.out.cell (World.block_lt_of_cell? w _ hx111_2)).trans hx111_2; replace p111 := eq_true p111; replace q111 := eq_true q111))
              go_ret
              exact ⟨by first | rfl | (simp [errW_none, errW_some] <;> rfl) | (simp [*, errW_none, errW_some] <;> rfl) | (simp [bne_nil_]; done), by repeat (first | (with_reducible first | exact HB.out | apply below_alloc | apply pw_below_drewN | apply below_drew1) | exact HB.out)⟩
            · rw [if_neg c6] at H
              have c6b0 : ((((rd_T31 l0 x3_1).f0).toList == ([] : List UInt8)) != (x3_1 == 0)) = false := by simpa using c6
              have c6b8 : (!(((rd_T31 l0 x3_1).f0).toList.isEmpty) == (x3_1 == 0)) = false := by
                have e_ : (((rd_T31 l0 x3_1).f0).toList == ([] : List UInt8)) = ((rd_T31 l0 x3_1).f0).toList.isEmpty := by cases ((rd_T31 l0 x3_1).f0).toList <;> rfl
                have h_ := c6b0
                rw [e_] at h_
                revert h_
                cases ((rd_T31 l0 x3_1).f0).toList.isEmpty <;> cases (x3_1 == 0) <;> decide
              (try (have c6b1 : decide ((((rd_T31 l0 x3_1).f0).toList == ([] : List UInt8)) = (x3_1 == 0)) = true := by simpa using c6))
              (try (have c6b2 : ((((rd_T31 l0 x3_1).f0).toList == ([] : List UInt8)) == (x3_1 == 0)) = true := by simpa using c6))
              clear c6
              have H' := Aside0.mk H
              clear H
              have p109 : 0 ≤ (x3_1 : Int) := of_decide_eq_true (by first | (with_reducible assumption) | assumption)
              have q109 : x3_1 < (l0.length : Int) := of_decide_eq_true (by first | (with_reducible assumption) | assumption)
              obtain ⟨ad109, e109, hx109_0, hx109_1, hx109_2⟩ := at_T31 HR0.out x3_1 p109 q109
              cases e109
              replace hx109_0 := (HB.out.cell (World.block_lt_of_cell? w _ hx109_0)).trans hx109_0
              replace hx109_1 := (HB.out.cell (World.block_lt_of_cell? w _ hx109_1)).trans hx109_1
              replace hx109_2 := (HB.out.cell (World.block_lt_of_cell? w _ hx109_2)).trans hx109_2
              replace p109 := eq_true p109
              replace q109 := eq_true q109
              go_wp2_with (first | ((with_reducible refine gate_callee (f := 22) rfl ?_); refine goesL_ (some 14) rfl rfl Tryd.func22 (by kernel_rfl) rfl #[.agg #[.string ((rd_T31 l0 x3_1).f0), .string ((rd_T31 l0 x3_1).f1), .bool ((rd_T31 l0 x3_1).f2)]] rfl (by (try simp only [List.map_toArray, List.map_cons, List.map_nil]); first | done | rfl | (simp only [List.length_drop, List.length_take]; rfl)) ?_; (with_reducible refine (spec_TokenKnown.calls k1 ((rd_T31 l0 x3_1).f0) ((rd_T31 l0 x3_1).f1) ((rd_T31 l0 x3_1).f2) true _ A4.out).mono ?_); rintro e w8 ⟨rfl, hb⟩; refine ⟨_, rfl, ?_⟩; have n0_ := Aside0.mk (below_step (by repeat (first | (with_reducible first | exact HB.out | apply below_alloc | apply pw_below_drewN | apply below_drew1) | exact HB.out)) hb); clear HB; have HB := n0_; clear n0_; (try clear hb); (try clear hb2); (try clear hk); (try clear hi); have p111 : 0 ≤ (x3_1 : Int) := of_decide_eq_true (by first | (with_reducible assumption) | assumption); have q111 : x3_1 < (l0.length : Int) := of_decide_eq_true (by first | (with_reducible assumption) | assumption); obtain ⟨ad111, e111, hx111_0, hx111_1, hx111_2⟩ := at_T31 HR0.out x3_1 p111 q111; obtain rfl : ad109 = ad111 := (by injection e111); replace hx111_0 := (HB.out.cell (World.block_lt_of_cell? w _ hx111_0)).trans hx111_0; replace hx111_1 := (HB.out.cell (World.block_lt_of_cell? w _ hx111_1)).trans hx111_1; replace hx111_2 := (HB.out.cell (World.block_lt_of_cell? w _ hx111_2)).trans hx111_2; replace p111 := eq_true p111; replace q111 := eq_true q111))
              go_roundg k1
              case measure => have := HK1.out; omega
              case rel => exact ⟨(wrap64 (x3_1 + 1)), (by first | rfl | (simp; done) | (simp [*]; done) | (simp [bne_nil_]; done)), H', ⟨by have := HK1.out; omega⟩, ⟨by repeat (first | (with_reducible first | exact HB.out | apply below_alloc | apply pw_below_drewN | apply below_drew1) | exact HB.out)⟩⟩
          · replace c5 := Bool.eq_false_iff.mpr c5
            subst c5
            have H1 : (some false) = some r := by rw [if_neg (show ¬ (false = true) by decide)] at H; exact H
            clear H
            have H := H1
            clear H1
            obtain rfl := Option.some.inj H
            have p109 : 0 ≤ (x3_1 : Int) := of_decide_eq_true (by first | (with_reducible assumption) | assumption)
            have q109 : x3_1 < (l0.length : Int) := of_decide_eq_true (by first | (with_reducible assumption) | assumption)
            obtain ⟨ad109, e109, hx109_0, hx109_1, hx109_2⟩ := at_T31 HR0.out x3_1 p109 q109
            cases e109
            replace hx109_0 := (HB.out.cell (World.block_lt_of_cell? w _ hx109_0)).trans hx109_0
            replace hx109_1 := (HB.out.cell (World.block_lt_of_cell? w _ hx109_1)).trans hx109_1
            replace hx109_2 := (HB.out.cell (World.block_lt_of_cell? w _ hx109_2)).trans hx109_2
            replace p109 := eq_true p109
            replace q109 := eq_true q109
            go_wp2_with (first | ((with_reducible refine gate_callee (f := 22) rfl ?_); refine goesL_ (some 14) rfl rfl Tryd.func22 (by kernel_rfl) rfl #[.agg #[.string ((rd_T31 l0 x3_1).f0), .string ((rd_T31 l0 x3_1).f1), .bool ((rd_T31 l0 x3_1).f2)]] rfl (by (try simp only [List.map_toArray, List.map_cons, List.map_nil]); first | done | rfl | (simp only [List.length_drop, List.length_take]; rfl)) ?_; (with_reducible refine (spec_TokenKnown.calls k1 ((rd_T31 l0 x3_1).f0) ((rd_T31 l0 x3_1).f1) ((rd_T31 l0 x3_1).f2) false _ A4.out).mono ?_); rintro e w9 ⟨rfl, hb⟩; refine ⟨_, rfl, ?_⟩; have n0_ := Aside0.mk (below_step (by repeat (first | (with_reducible first | exact HB.out | apply below_alloc | apply pw_below_drewN | apply below_drew1) | exact HB.out)) hb); clear HB; have HB := n0_; clear n0_; (try clear hb); (try clear hb2); (try clear hk); (try clear hi)))
            go_ret
            exact ⟨by first | rfl | (simp [errW_none, errW_some] <;> rfl) | (simp [*, errW_none, errW_some] <;> rfl) | (simp [bne_nil_]; done), by repeat (first | (with_reducible first | exact HB.out | apply below_alloc | apply pw_below_drewN | apply below_drew1) | exact HB.out)⟩
        · rw [if_neg c3] at H
          exact absurd H (by simp)
      · rw [if_neg c2] at H
        have c2b0 : decide (x3_1 < (l0.length : Int)) = false := decide_eq_false c2
        clear c2
        obtain rfl := Option.some.inj H
        go_wp2
        go_ret
        exact ⟨by first | rfl | (simp [errW_none, errW_some] <;> rfl) | (simp [*, errW_none, errW_some] <;> rfl) | (simp [bne_nil_]; done), by repeat (first | (with_reducible first | exact HB.out | apply below_alloc | apply pw_below_drewN | apply below_drew1) | exact HB.out)⟩

/-! ### spec_TokenTrims: function 16 -/
def spec_TokenTrims.f (a0_0 : ByteArray) (a0_1 : ByteArray) (a0_2 : Bool) : Option (Bool) := if a0_1.toList = ([48] : List UInt8) then (some true) else (if a0_1.toList = ([] : List UInt8) then (some true) else (if a0_1.toList = ([102, 105, 110, 97, 108] : List UInt8) then (some true) else (some (a0_1.toList == ([103, 97] : List UInt8)))))
set_option maxHeartbeats 8000000 in
set_option maxRecDepth 100000 in
theorem spec_TokenTrims.calls (a0_0 : ByteArray) (a0_1 : ByteArray) (a0_2 : Bool) (r : Bool) (w : World) (h : spec_TokenTrims.f a0_0 a0_1 a0_2 = some r) :
    Calls Tryd.prog 16 #[.agg #[.string a0_0, .string a0_1, .bool a0_2]] w fun e w' => e = .returned (.bool r) ∧ Below w.heap.size w w' := by
  have hu31 := Tryd.underlying31
  have HB := Aside0.mk (Below.refl w.heap.size w)
  have H : (if a0_1.toList = ([48] : List UInt8) then (some true) else (if a0_1.toList = ([] : List UInt8) then (some true) else (if a0_1.toList = ([102, 105, 110, 97, 108] : List UInt8) then (some true) else (some (a0_1.toList == ([103, 97] : List UInt8)))))) = some r := h
  clear h
  by_cases c2 : a0_1.toList = ([48] : List UInt8)
  · rw [if_pos c2] at H
    have c2b0 : (a0_1.toList == ([48] : List UInt8)) = true := beq_iff_eq.mpr c2
    have c2b1 : (a0_1.toList != ([48] : List UInt8)) = false := bne_eq_false_iff_eq.mpr c2
    clear c2
    obtain rfl := Option.some.inj H
    go_enter Tryd.func16, Tryd.ntmps16
    go_wp2_with (first | ((with_reducible refine gate_dst (N := 1) rfl ?_); refine box_event ?hg (N := 1) ?hd (cs := #[.string a0_0, .string a0_1, .bool a0_2]) (t := 31) ?hr ?_; (case hd => rfl); (case hg => rfl); (case hr => first | (go_simp; done) | (go_simp; rfl)); intro gb112 hg w3 hbox hb; have n0_ := Aside0.mk (below_step (by repeat (first | (with_reducible first | exact HB.out | apply below_alloc | apply pw_below_drewN | apply below_drew1) | exact HB.out)) hb); have n1_ := Aside0.mk (hbox); have n2_ := Aside0.mk ((by rw [hg]; exact (below_size (by repeat (first | (with_reducible first | exact HB.out | apply below_alloc | apply pw_below_drewN | apply below_drew1) | exact HB.out))) : w.heap.size ≤ gb112)); have n3_ := Aside0.mk ((by rw [hg]; exact (below_size (by repeat (first | (with_reducible first | exact HB.out | apply below_alloc | apply pw_below_drewN | apply below_drew1) | exact HB.out))) : w.heap.size ≤ gb112)); clear HB; have HB := n0_; have BK112 := n1_; have GW112 := n2_; have GE112 := n3_; clear n0_ n1_ n2_ n3_; clear hb hbox hg; have hcz4_0 : w3.cell? ⟨gb112, 0, none⟩ = some (.string a0_0) := (blk_cell BK112.out 0).trans rfl; have hcz4_1 : w3.cell? ⟨gb112, 1, none⟩ = some (.string a0_1) := (blk_cell BK112.out 1).trans rfl; have hcz4_2 : w3.cell? ⟨gb112, 2, none⟩ = some (.bool a0_2) := (blk_cell BK112.out 2).trans rfl; have hfz4_0 := blk_frozen BK112.out 0; have hfz4_1 := blk_frozen BK112.out 1; have hfz4_2 := blk_frozen BK112.out 2))
    go_ret
    exact ⟨by first | rfl | (simp [errW_none, errW_some] <;> rfl) | (simp [*, errW_none, errW_some] <;> rfl) | (simp [bne_nil_]; done), by repeat (first | (with_reducible first | exact HB.out | apply below_alloc | apply pw_below_drewN | apply below_drew1 | refine below_set ?_ GE112.out) | exact HB.out)⟩
  · rw [if_neg c2] at H
    have c2b0 : (a0_1.toList == ([48] : List UInt8)) = false := beq_eq_false_iff_ne.mpr c2
    have c2b1 : (a0_1.toList != ([48] : List UInt8)) = true := bne_iff_ne.mpr c2
    by_cases c5 : a0_1.toList = ([] : List UInt8)
    · rw [if_pos c5] at H
      have c5b0 : (a0_1.toList == ([] : List UInt8)) = true := beq_iff_eq.mpr c5
      have c5b1 : (a0_1.toList != ([] : List UInt8)) = false := bne_eq_false_iff_eq.mpr c5
      clear c5
      obtain rfl := Option.some.inj H
      go_enter Tryd.func16, Tryd.ntmps16
      go_wp2_with (first | ((with_reducible refine gate_dst (N := 1) rfl ?_); refine box_event ?hg (N := 1) ?hd (cs := #[.string a0_0, .string a0_1, .bool a0_2]) (t := 31) ?hr ?_; (case hd => rfl); (case hg => rfl); (case hr => first | (go_simp; done) | (go_simp; rfl)); intro gb112 hg w6 hbox hb; have n0_ := Aside0.mk (below_step (by repeat (first | (with_reducible first | exact HB.out | apply below_alloc | apply pw_below_drewN | apply below_drew1) | exact HB.out)) hb); have n1_ := Aside0.mk (hbox); have n2_ := Aside0.mk ((by rw [hg]; exact (below_size (by repeat (first | (with_reducible first | exact HB.out | apply below_alloc | apply pw_below_drewN | apply below_drew1) | exact HB.out))) : w.heap.size ≤ gb112)); have n3_ := Aside0.mk ((by rw [hg]; exact (below_size (by repeat (first | (with_reducible first | exact HB.out | apply below_alloc | apply pw_below_drewN | apply below_drew1) | exact HB.out))) : w.heap.size ≤ gb112)); clear HB; have HB := n0_; have BK112 := n1_; have GW112 := n2_; have GE112 := n3_; clear n0_ n1_ n2_ n3_; clear hb hbox hg; have hcz7_0 : w6.cell? ⟨gb112, 0, none⟩ = some (.string a0_0) := (blk_cell BK112.out 0).trans rfl; have hcz7_1 : w6.cell? ⟨gb112, 1, none⟩ = some (.string a0_1) := (blk_cell BK112.out 1).trans rfl; have hcz7_2 : w6.cell? ⟨gb112, 2, none⟩ = some (.bool a0_2) := (blk_cell BK112.out 2).trans rfl; have hfz7_0 := blk_frozen BK112.out 0; have hfz7_1 := blk_frozen BK112.out 1; have hfz7_2 := blk_frozen BK112.out 2))
      go_ret
      exact ⟨by first | rfl | (simp [errW_none, errW_some] <;> rfl) | (simp [*, errW_none, errW_some] <;> rfl) | (simp [bne_nil_]; done), by repeat (first | (with_reducible first | exact HB.out | apply below_alloc | apply pw_below_drewN | apply below_drew1 | refine below_set ?_ GE112.out) | exact HB.out)⟩
    · rw [if_neg c5] at H
      have c5b0 : (a0_1.toList == ([] : List UInt8)) = false := beq_eq_false_iff_ne.mpr c5
      have c5b1 : (a0_1.toList != ([] : List UInt8)) = true := bne_iff_ne.mpr c5
      by_cases c8 : a0_1.toList = ([102, 105, 110, 97, 108] : List UInt8)
      · rw [if_pos c8] at H
        have c8b0 : (a0_1.toList == ([102, 105, 110, 97, 108] : List UInt8)) = true := beq_iff_eq.mpr c8
        have c8b1 : (a0_1.toList != ([102, 105, 110, 97, 108] : List UInt8)) = false := bne_eq_false_iff_eq.mpr c8
        clear c8
        obtain rfl := Option.some.inj H
        go_enter Tryd.func16, Tryd.ntmps16
        go_wp2_with (first | ((with_reducible refine gate_dst (N := 1) rfl ?_); refine box_event ?hg (N := 1) ?hd (cs := #[.string a0_0, .string a0_1, .bool a0_2]) (t := 31) ?hr ?_; (case hd => rfl); (case hg => rfl); (case hr => first | (go_simp; done) | (go_simp; rfl)); intro gb112 hg w9 hbox hb; have n0_ := Aside0.mk (below_step (by repeat (first | (with_reducible first | exact HB.out | apply below_alloc | apply pw_below_drewN | apply below_drew1) | exact HB.out)) hb); have n1_ := Aside0.mk (hbox); have n2_ := Aside0.mk ((by rw [hg]; exact (below_size (by repeat (first | (with_reducible first | exact HB.out | apply below_alloc | apply pw_below_drewN | apply below_drew1) | exact HB.out))) : w.heap.size ≤ gb112)); have n3_ := Aside0.mk ((by rw [hg]; exact (below_size (by repeat (first | (with_reducible first | exact HB.out | apply below_alloc | apply pw_below_drewN | apply below_drew1) | exact HB.out))) : w.heap.size ≤ gb112)); clear HB; have HB := n0_; have BK112 := n1_; have GW112 := n2_; have GE112 := n3_; clear n0_ n1_ n2_ n3_; clear hb hbox hg; have hcz10_0 : w9.cell? ⟨gb112, 0, none⟩ = some (.string a0_0) := (blk_cell BK112.out 0).trans rfl; have hcz10_1 : w9.cell? ⟨gb112, 1, none⟩ = some (.string a0_1) := (blk_cell BK112.out 1).trans rfl; have hcz10_2 : w9.cell? ⟨gb112, 2, none⟩ = some (.bool a0_2) := (blk_cell BK112.out 2).trans rfl; have hfz10_0 := blk_frozen BK112.out 0; have hfz10_1 := blk_frozen BK112.out 1; have hfz10_2 := blk_frozen BK112.out 2))
        go_ret
        exact ⟨by first | rfl | (simp [errW_none, errW_some] <;> rfl) | (simp [*, errW_none, errW_some] <;> rfl) | (simp [bne_nil_]; done), by repeat (first | (with_reducible first | exact HB.out | apply below_alloc | apply pw_below_drewN | apply below_drew1 | refine below_set ?_ GE112.out) | exact HB.out)⟩
      · rw [if_neg c8] at H
        have c8b0 : (a0_1.toList == ([102, 105, 110, 97, 108] : List UInt8)) = false := beq_eq_false_iff_ne.mpr c8
        have c8b1 : (a0_1.toList != ([102, 105, 110, 97, 108] : List UInt8)) = true := bne_iff_ne.mpr c8
        obtain rfl := Option.some.inj H
        go_enter Tryd.func16, Tryd.ntmps16
        go_wp2_with (first | ((with_reducible refine gate_dst (N := 1) rfl ?_); refine box_event ?hg (N := 1) ?hd (cs := #[.string a0_0, .string a0_1, .bool a0_2]) (t := 31) ?hr ?_; (case hd => rfl); (case hg => rfl); (case hr => first | (go_simp; done) | (go_simp; rfl)); intro gb112 hg w11 hbox hb; have n0_ := Aside0.mk (below_step (by repeat (first | (with_reducible first | exact HB.out | apply below_alloc | apply pw_below_drewN | apply below_drew1) | exact HB.out)) hb); have n1_ := Aside0.mk (hbox); have n2_ := Aside0.mk ((by rw [hg]; exact (below_size (by repeat (first | (with_reducible first | exact HB.out | apply below_alloc | apply pw_below_drewN | apply below_drew1) | exact HB.out))) : w.heap.size ≤ gb112)); have n3_ := Aside0.mk ((by rw [hg]; exact (below_size (by repeat (first | (with_reducible first | exact HB.out | apply below_alloc | apply pw_below_drewN | apply below_drew1) | exact HB.out))) : w.heap.size ≤ gb112)); clear HB; have HB := n0_; have BK112 := n1_; have GW112 := n2_; have GE112 := n3_; clear n0_ n1_ n2_ n3_; clear hb hbox hg; have hcz12_0 : w11.cell? ⟨gb112, 0, none⟩ = some (.string a0_0) := (blk_cell BK112.out 0).trans rfl; have hcz12_1 : w11.cell? ⟨gb112, 1, none⟩ = some (.string a0_1) := (blk_cell BK112.out 1).trans rfl; have hcz12_2 : w11.cell? ⟨gb112, 2, none⟩ = some (.bool a0_2) := (blk_cell BK112.out 2).trans rfl; have hfz12_0 := blk_frozen BK112.out 0; have hfz12_1 := blk_frozen BK112.out 1; have hfz12_2 := blk_frozen BK112.out 2))
        go_ret
        exact ⟨by first | rfl | (simp [errW_none, errW_some] <;> rfl) | (simp [*, errW_none, errW_some] <;> rfl) | (simp [bne_nil_]; done), by repeat (first | (with_reducible first | exact HB.out | apply below_alloc | apply pw_below_drewN | apply below_drew1 | refine below_set ?_ GE112.out) | exact HB.out)⟩

/-! ### laws_tokens: function 6 -/
mutual
def laws_tokens.l0 : Nat → List (List (S31)) → Int → Int → Option (Bool)
  | 0, _, _, _ => none
  | k + 1, x7, x8, x9 => if x9 < x8 then (if 0 ≤ x9 then (if x9 < (x7.length : Int) then (if ((rd_L3 x7 x9).length : Int) > 40 then (laws_tokens.j1 k (rd_L3 x7 x9) x7 x8 x9 true) else ((spec_MavenKnown.f k (rd_L3 x7 x9)).bind fun t114 => (if t114 = true then (if ((rd_L3 x7 x9).length : Int) > 1 then (if 0 ≤ (wrap64 (((rd_L3 x7 x9).length : Int) - 1)) then (if (wrap64 (((rd_L3 x7 x9).length : Int) - 1)) < ((rd_L3 x7 x9).length : Int) then ((spec_TokenTrims.f ((rd_T31 (rd_L3 x7 x9) (wrap64 (((rd_L3 x7 x9).length : Int) - 1))).f0) ((rd_T31 (rd_L3 x7 x9) (wrap64 (((rd_L3 x7 x9).length : Int) - 1))).f1) ((rd_T31 (rd_L3 x7 x9) (wrap64 (((rd_L3 x7 x9).length : Int) - 1))).f2)).bind fun t116 => (laws_tokens.j1 k (rd_L3 x7 x9) x7 x8 x9 t116)) else (none)) else (none)) else (laws_tokens.j1 k (rd_L3 x7 x9) x7 x8 x9 false)) else (laws_tokens.j1 k (rd_L3 x7 x9) x7 x8 x9 true)))) else (none)) else (none)) else (some true)
def laws_tokens.j1 : Nat → List (S31) → List (List (S31)) → Int → Int → Bool → Option (Bool)
  | 0, _, _, _, _, _ => none
  | k + 1, x4, x7, x8, x9, x34 => if x34 = true then (some false) else (laws_tokens.l1 k x7 x8 x9 x4 (x4.length : Int) 0)
def laws_tokens.l1 : Nat → List (List (S31)) → Int → Int → List (S31) → Int → Int → Option (Bool)
  | 0, _, _, _, _, _, _ => none
  | k + 1, x7, x8, x9, x35, x36, x37 => if x37 < x36 then (if 0 ≤ x37 then (if x37 < (x35.length : Int) then ((laws_short.f k (([(rd_T31 x35 x37).f0, (rd_T31 x35 x37).f1] : List ByteArray))).bind fun t122 => (if t122 = true then (laws_tokens.l1 k x7 x8 x9 x35 x36 (wrap64 (x37 + 1))) else (some false))) else (none)) else (none)) else (laws_tokens.l0 k x7 x8 (wrap64 (x9 + 1)))
end
def laws_tokens.f (k : Nat) (l0 : List (List (S31))) : Option (Bool) := laws_tokens.l0 k l0 (l0.length : Int) 0
theorem laws_tokens.mono_l : ∀ k, (∀ y0 y1 y2, LeO (laws_tokens.l0 k y0 y1 y2) (laws_tokens.l0 (k + 1) y0 y1 y2)) ∧ (∀ y0 y1 y2 y3 y4, LeO (laws_tokens.j1 k y0 y1 y2 y3 y4) (laws_tokens.j1 (k + 1) y0 y1 y2 y3 y4)) ∧ (∀ y0 y1 y2 y3 y4 y5, LeO (laws_tokens.l1 k y0 y1 y2 y3 y4 y5) (laws_tokens.l1 (k + 1) y0 y1 y2 y3 y4 y5))
  | 0 => ⟨fun _ _ _ r h => by simp [laws_tokens.l0] at h, fun _ _ _ _ _ r h => by simp [laws_tokens.j1] at h, fun _ _ _ _ _ _ r h => by simp [laws_tokens.l1] at h⟩
  | k + 1 => by
    obtain ⟨ih0, ih1, ih2⟩ := laws_tokens.mono_l k
    refine ⟨?_, ?_, ?_⟩
    · intro y0 y1 y2
      unfold laws_tokens.l0
      repeat' first
      | (with_reducible exact ih0 _ _ _)
      | (with_reducible exact ih1 _ _ _ _ _)
      | (with_reducible exact ih2 _ _ _ _ _ _)
      | (with_reducible exact laws_short.mono _ _)
      | (with_reducible exact spec_MavenKnown.mono _ _)
      | (with_reducible exact LeO.refl _)
      | (with_reducible exact LeO.none _)
      | (with_reducible refine LeO.ite ?_ ?_)
      | (with_reducible refine LeO.bind ?_ (fun _ => ?_))
      | exact ih0 _ _ _
      | exact ih1 _ _ _ _ _
      | exact ih2 _ _ _ _ _ _
      | exact laws_short.mono _ _
      | exact spec_MavenKnown.mono _ _
      | exact LeO.none _
      | refine LeO.ite ?_ ?_
      | refine LeO.bind ?_ (fun _ => ?_)
    · intro y0 y1 y2 y3 y4
      unfold laws_tokens.j1
      repeat' first
      | (with_reducible exact ih0 _ _ _)
      | (with_reducible exact ih1 _ _ _ _ _)
      | (with_reducible exact ih2 _ _ _ _ _ _)
      | (with_reducible exact laws_short.mono _ _)
      | (with_reducible exact spec_MavenKnown.mono _ _)
      | (with_reducible exact LeO.refl _)
      | (with_reducible exact LeO.none _)
      | (with_reducible refine LeO.ite ?_ ?_)
      | (with_reducible refine LeO.bind ?_ (fun _ => ?_))
      | exact ih0 _ _ _
      | exact ih1 _ _ _ _ _
      | exact ih2 _ _ _ _ _ _
      | exact laws_short.mono _ _
      | exact spec_MavenKnown.mono _ _
      | exact LeO.none _
      | refine LeO.ite ?_ ?_
      | refine LeO.bind ?_ (fun _ => ?_)
    · intro y0 y1 y2 y3 y4 y5
      unfold laws_tokens.l1
      repeat' first
      | (with_reducible exact ih0 _ _ _)
      | (with_reducible exact ih1 _ _ _ _ _)
      | (with_reducible exact ih2 _ _ _ _ _ _)
      | (with_reducible exact laws_short.mono _ _)
      | (with_reducible exact spec_MavenKnown.mono _ _)
      | (with_reducible exact LeO.refl _)
      | (with_reducible exact LeO.none _)
      | (with_reducible refine LeO.ite ?_ ?_)
      | (with_reducible refine LeO.bind ?_ (fun _ => ?_))
      | exact ih0 _ _ _
      | exact ih1 _ _ _ _ _
      | exact ih2 _ _ _ _ _ _
      | exact laws_short.mono _ _
      | exact spec_MavenKnown.mono _ _
      | exact LeO.none _
      | refine LeO.ite ?_ ?_
      | refine LeO.bind ?_ (fun _ => ?_)
theorem laws_tokens.mono : ∀ a0 k, LeO (laws_tokens.f k a0) (laws_tokens.f (k + 1) a0) := by
  intro a0 k
  obtain ⟨ih0, ih1, ih2⟩ := laws_tokens.mono_l k
  unfold laws_tokens.f
  repeat' first
      | (with_reducible exact ih0 _ _ _)
      | (with_reducible exact ih1 _ _ _ _ _)
      | (with_reducible exact ih2 _ _ _ _ _ _)
      | (with_reducible exact laws_short.mono _ _)
      | (with_reducible exact spec_MavenKnown.mono _ _)
      | (with_reducible exact LeO.refl _)
      | (with_reducible exact LeO.none _)
      | (with_reducible refine LeO.ite ?_ ?_)
      | (with_reducible refine LeO.bind ?_ (fun _ => ?_))
      | exact ih0 _ _ _
      | exact ih1 _ _ _ _ _
      | exact ih2 _ _ _ _ _ _
      | exact laws_short.mono _ _
      | exact spec_MavenKnown.mono _ _
      | exact LeO.none _
      | refine LeO.ite ?_ ?_
      | refine LeO.bind ?_ (fun _ => ?_)
set_option maxHeartbeats 8000000 in
set_option maxRecDepth 100000 in
theorem laws_tokens.calls (k : Nat) (A0 : Option Addr) (c0 : Nat) (l0 : List (List (S31))) (r : Bool) (w : World) (hr0 : Kd.C (Kd.slice 31 k31) w A0 l0.length l0) (hc0 : l0.length ≤ c0) (h : laws_tokens.f k l0 = some r) :
    Calls Tryd.prog 6 #[.slice A0 l0.length c0] w fun e w' => e = .returned (.bool r) ∧ Below w.heap.size w w' := by
  have hu31 := Tryd.underlying31
  have HR0 := Aside0.mk hr0
  have HC0 := Aside0.mk hc0
  clear hr0 hc0
  have HB := Aside0.mk (Below.refl w.heap.size w)
  have H : (laws_tokens.l0 k l0 (l0.length : Int) 0) = some r := h
  clear h
  have H' := Aside0.mk H
  clear H
  go_enter Tryd.func6, Tryd.ntmps6
  go_wp2
  go_loopg [9] k (fun kq v9 w' => ∃ (x9_1 : Int), v9 = .int .i64 x9_1 ∧ Aside0 (laws_tokens.l0 kq l0 (l0.length : Int) x9_1 = some r) ∧ Aside0 (kq ≤ k) ∧ Aside0 (Below w.heap.size w w'))
  case atStart => exact ⟨(0), (by first | rfl | (simp; done) | (simp [*]; done) | (simp [bne_nil_]; done)), H', ⟨Nat.le_refl _⟩, ⟨by repeat (first | (with_reducible first | exact HB.out | apply below_alloc | apply pw_below_drewN | apply below_drew1) | exact HB.out)⟩⟩
  case round =>
    clear H'
    obtain ⟨x9_1, rfl, HA, HK1, HB⟩ := hrel
    cases gk with
    | zero => exact absurd HA.out (by simp [laws_tokens.l0])
    | succ k1 =>
      have H := HA.out
      clear HA
      simp only [laws_tokens.l0] at H
      by_cases c2 : x9_1 < (l0.length : Int)
      · rw [if_pos c2] at H
        have c2b0 : decide (x9_1 < (l0.length : Int)) = true := decide_eq_true c2
        clear c2
        by_cases c3 : 0 ≤ x9_1
        · rw [if_pos c3] at H
          have c3b0 : decide (0 ≤ x9_1) = true := decide_eq_true c3
          clear c3
          by_cases c4 : x9_1 < (l0.length : Int)
          · rw [if_pos c4] at H
            have c4b0 : decide (x9_1 < (l0.length : Int)) = true := decide_eq_true c4
            clear c4
            have HC5 := Aside0.mk H
            clear H
            have p113 : 0 ≤ (x9_1 : Int) := of_decide_eq_true (by first | (with_reducible assumption) | assumption)
            have q113 : x9_1 < (l0.length : Int) := of_decide_eq_true (by first | (with_reducible assumption) | assumption)
            obtain ⟨ad113, A113_0, c113_0, e113, hx113_0, hl113_0, hi113_0⟩ := at_L3 HR0.out x9_1 p113 q113
            cases e113
            replace hx113_0 := (HB.out.cell (World.block_lt_of_cell? w _ hx113_0)).trans hx113_0
            have HR113_0 := Aside0.mk hi113_0
            have HC113_0 := Aside0.mk hl113_0
            clear hi113_0 hl113_0
            replace p113 := eq_true p113
            replace q113 := eq_true q113
            go_upto_region 4 with (fail)
            go_cut [34] (fun v34 wc => ∃ (kq : Nat) (x34_4 : Bool), v34 = .bool x34_4 ∧ Aside0 (laws_tokens.j1 kq (rd_L3 l0 x9_1) l0 (l0.length : Int) x9_1 x34_4 = some r) ∧ Aside0 (kq ≤ k1) ∧ Aside0 (Below w.heap.size w wc))
            case first =>
              have H := HC5.out
              clear HC5
              by_cases c6 : ((rd_L3 l0 x9_1).length : Int) > 40
              · rw [if_pos c6] at H
                have c6b0 : decide (40 < ((rd_L3 l0 x9_1).length : Int)) = true := decide_eq_true c6
                have c6b1 : decide (40 < (rd_L3 l0 x9_1).length) = true := decide_eq_true (by omega)
                clear c6
                (first | rw [c6b0] | (simp only [i64_w, i32_w]; rw [c6b0]) | skip)
                have H' := Aside0.mk H
                clear H
                go_wp2
                go_meet
                case rel => exact ⟨_, (true), (by first | rfl | (simp; done) | (simp [*]; done) | (simp [bne_nil_]; done)), H', ⟨by have := HK1.out; first | omega | exact Nat.le_refl _⟩, ⟨by repeat (first | (with_reducible first | exact HB.out | apply below_alloc | apply pw_below_drewN | apply below_drew1) | exact HB.out)⟩⟩
              · rw [if_neg c6] at H
                have c6b0 : decide (40 < ((rd_L3 l0 x9_1).length : Int)) = false := decide_eq_false c6
                have c6b1 : decide (40 < (rd_L3 l0 x9_1).length) = false := decide_eq_false (by omega)
                clear c6
                (first | rw [c6b0] | (simp only [i64_w, i32_w]; rw [c6b0]) | skip)
                replace H := Option.bind_eq_some_iff.mp H
                obtain ⟨t114, A70, H⟩ := H
                replace H : (if t114 = true then (if ((rd_L3 l0 x9_1).length : Int) > 1 then (if 0 ≤ (wrap64 (((rd_L3 l0 x9_1).length : Int) - 1)) then (if (wrap64 (((rd_L3 l0 x9_1).length : Int) - 1)) < ((rd_L3 l0 x9_1).length : Int) then ((spec_TokenTrims.f ((rd_T31 (rd_L3 l0 x9_1) (wrap64 (((rd_L3 l0 x9_1).length : Int) - 1))).f0) ((rd_T31 (rd_L3 l0 x9_1) (wrap64 (((rd_L3 l0 x9_1).length : Int) - 1))).f1) ((rd_T31 (rd_L3 l0 x9_1) (wrap64 (((rd_L3 l0 x9_1).length : Int) - 1))).f2)).bind fun t116 => (laws_tokens.j1 k1 (rd_L3 l0 x9_1) l0 (l0.length : Int) x9_1 t116)) else (none)) else (none)) else (laws_tokens.j1 k1 (rd_L3 l0 x9_1) l0 (l0.length : Int) x9_1 false)) else (laws_tokens.j1 k1 (rd_L3 l0 x9_1) l0 (l0.length : Int) x9_1 true)) = some r := H
                have A7 := Aside0.mk A70
                clear A70
                by_cases c8 : t114 = true
                · subst c8
                  have H1 : (if ((rd_L3 l0 x9_1).length : Int) > 1 then (if 0 ≤ (wrap64 (((rd_L3 l0 x9_1).length : Int) - 1)) then (if (wrap64 (((rd_L3 l0 x9_1).length : Int) - 1)) < ((rd_L3 l0 x9_1).length : Int) then ((spec_TokenTrims.f ((rd_T31 (rd_L3 l0 x9_1) (wrap64 (((rd_L3 l0 x9_1).length : Int) - 1))).f0) ((rd_T31 (rd_L3 l0 x9_1) (wrap64 (((rd_L3 l0 x9_1).length : Int) - 1))).f1) ((rd_T31 (rd_L3 l0 x9_1) (wrap64 (((rd_L3 l0 x9_1).length : Int) - 1))).f2)).bind fun t116 => (laws_tokens.j1 k1 (rd_L3 l0 x9_1) l0 (l0.length : Int) x9_1 t116)) else (none)) else (none)) else (laws_tokens.j1 k1 (rd_L3 l0 x9_1) l0 (l0.length : Int) x9_1 false)) = some r := by rw [if_pos rfl] at H; exact H
                  clear H
                  have H := H1
                  clear H1
                  by_cases c9 : ((rd_L3 l0 x9_1).length : Int) > 1
                  · rw [if_pos c9] at H
                    have c9b0 : decide (1 < ((rd_L3 l0 x9_1).length : Int)) = true := decide_eq_true c9
                    have c9b1 : decide (1 < (rd_L3 l0 x9_1).length) = true := decide_eq_true (by omega)
                    clear c9
                    obtain ⟨ji10, hji10⟩ : ∃ j_ : Int, (wrap64 (((rd_L3 l0 x9_1).length : Int) - 1)) = j_ := ⟨_, rfl⟩
                    replace H : (if 0 ≤ (ji10) then (if (ji10) < ((rd_L3 l0 x9_1).length : Int) then ((spec_TokenTrims.f ((rd_T31 (rd_L3 l0 x9_1) (ji10)).f0) ((rd_T31 (rd_L3 l0 x9_1) (ji10)).f1) ((rd_T31 (rd_L3 l0 x9_1) (ji10)).f2)).bind fun t116 => (laws_tokens.j1 k1 (rd_L3 l0 x9_1) l0 (l0.length : Int) x9_1 t116)) else (none)) else (none)) = some r := by first | (rw [hji10] at H; exact H) | (simp only [hji10] at H ⊢; exact H)
                    (try rw [hji10] at A7)
                    have hji10w : (IntKind.i64.wrap (((rd_L3 l0 x9_1).length : Int) - 1)) = ji10 := (i64_w _).trans hji10
                    by_cases c11 : 0 ≤ (ji10)
                    · rw [if_pos c11] at H
                      have c11b0 : decide (0 ≤ (ji10)) = true := decide_eq_true c11
                      clear c11
                      by_cases c12 : (ji10) < ((rd_L3 l0 x9_1).length : Int)
                      · rw [if_pos c12] at H
                        have c12b0 : decide ((ji10) < ((rd_L3 l0 x9_1).length : Int)) = true := decide_eq_true c12
                        clear c12
                        replace H := Option.bind_eq_some_iff.mp H
                        obtain ⟨t116, A130, H⟩ := H
                        replace H : (laws_tokens.j1 k1 (rd_L3 l0 x9_1) l0 (l0.length : Int) x9_1 t116) = some r := H
                        have A13 := Aside0.mk A130
                        clear A130
                        have H' := Aside0.mk H
                        clear H
                        go_wp2_with (first | (go_at_call 15; (with_reducible refine (spec_MavenKnown.calls k1 _ _ (rd_L3 l0 x9_1) true _ ?side1 ?side2 A7.out).mono ?_); (case side1 => repeat (first | exact (Kd.C_below HR113_0.out HB.out) | (with_reducible refine Kd.C_alloc ?_ _) | (with_reducible refine Kd.C_drewN ?_ _) | (with_reducible refine Kd.C_drew ?_))); (case side2 => exact HC113_0.out); rintro e w14 ⟨rfl, hb⟩; have n0_ := Aside0.mk (below_step (by repeat (first | (with_reducible first | exact HB.out | apply below_alloc | apply pw_below_drewN | apply below_drew1) | exact HB.out)) hb); clear HB; have HB := n0_; clear n0_; (try clear hb); (try clear hb2); (try clear hk); (try clear hi); have p115 : 0 ≤ ((ji10) : Int) := of_decide_eq_true (by first | (with_reducible assumption) | assumption); have q115 : (ji10) < ((rd_L3 l0 x9_1).length : Int) := of_decide_eq_true (by first | (with_reducible assumption) | assumption); obtain ⟨ad115, e115, hx115_0, hx115_1, hx115_2⟩ := at_T31 HR113_0.out (ji10) p115 q115; cases e115; replace hx115_0 := (HB.out.cell (World.block_lt_of_cell? w _ hx115_0)).trans hx115_0; replace hx115_1 := (HB.out.cell (World.block_lt_of_cell? w _ hx115_1)).trans hx115_1; replace hx115_2 := (HB.out.cell (World.block_lt_of_cell? w _ hx115_2)).trans hx115_2; replace p115 := eq_true p115; replace q115 := eq_true q115) | (go_at_call 16; (with_reducible refine (spec_TokenTrims.calls ((rd_T31 (rd_L3 l0 x9_1) (ji10)).f0) ((rd_T31 (rd_L3 l0 x9_1) (ji10)).f1) ((rd_T31 (rd_L3 l0 x9_1) (ji10)).f2) t116 _ A13.out).mono ?_); rintro e w15 ⟨rfl, hb⟩; have n0_ := Aside0.mk (below_step (by repeat (first | (with_reducible first | exact HB.out | apply below_alloc | apply pw_below_drewN | apply below_drew1) | exact HB.out)) hb); clear HB; have HB := n0_; clear n0_; (try clear hb); (try clear hb2); (try clear hk); (try clear hi)))
                        go_meet
                        case rel => exact ⟨_, (t116), (by first | rfl | (simp; done) | (simp [*]; done) | (simp [bne_nil_]; done)), H', ⟨by have := HK1.out; first | omega | exact Nat.le_refl _⟩, ⟨by repeat (first | (with_reducible first | exact HB.out | apply below_alloc | apply pw_below_drewN | apply below_drew1) | exact HB.out)⟩⟩
                      · rw [if_neg c12] at H
                        exact absurd H (by simp)
                    · rw [if_neg c11] at H
                      exact absurd H (by simp)
                  · rw [if_neg c9] at H
                    have c9b0 : decide (1 < ((rd_L3 l0 x9_1).length : Int)) = false := decide_eq_false c9
                    have c9b1 : decide (1 < (rd_L3 l0 x9_1).length) = false := decide_eq_false (by omega)
                    clear c9
                    have H' := Aside0.mk H
                    clear H
                    go_wp2_with (first | (go_at_call 15; (with_reducible refine (spec_MavenKnown.calls k1 _ _ (rd_L3 l0 x9_1) true _ ?side1 ?side2 A7.out).mono ?_); (case side1 => repeat (first | exact (Kd.C_below HR113_0.out HB.out) | (with_reducible refine Kd.C_alloc ?_ _) | (with_reducible refine Kd.C_drewN ?_ _) | (with_reducible refine Kd.C_drew ?_))); (case side2 => exact HC113_0.out); rintro e w16 ⟨rfl, hb⟩; have n0_ := Aside0.mk (below_step (by repeat (first | (with_reducible first | exact HB.out | apply below_alloc | apply pw_below_drewN | apply below_drew1) | exact HB.out)) hb); clear HB; have HB := n0_; clear n0_; (try clear hb); (try clear hb2); (try clear hk); (try clear hi)))
                    go_meet
                    case rel => exact ⟨_, (false), (by first | rfl | (simp; done) | (simp [*]; done) | (simp [bne_nil_]; done)), H', ⟨by have := HK1.out; first | omega | exact Nat.le_refl _⟩, ⟨by repeat (first | (with_reducible first | exact HB.out | apply below_alloc | apply pw_below_drewN | apply below_drew1) | exact HB.out)⟩⟩
                · replace c8 := Bool.eq_false_iff.mpr c8
                  subst c8
                  have H1 : (laws_tokens.j1 k1 (rd_L3 l0 x9_1) l0 (l0.length : Int) x9_1 true) = some r := by rw [if_neg (show ¬ (false = true) by decide)] at H; exact H
                  clear H
                  have H := H1
                  clear H1
                  have H' := Aside0.mk H
                  clear H
                  go_wp2_with (first | (go_at_call 15; (with_reducible refine (spec_MavenKnown.calls k1 _ _ (rd_L3 l0 x9_1) false _ ?side1 ?side2 A7.out).mono ?_); (case side1 => repeat (first | exact (Kd.C_below HR113_0.out HB.out) | (with_reducible refine Kd.C_alloc ?_ _) | (with_reducible refine Kd.C_drewN ?_ _) | (with_reducible refine Kd.C_drew ?_))); (case side2 => exact HC113_0.out); rintro e w17 ⟨rfl, hb⟩; have n0_ := Aside0.mk (below_step (by repeat (first | (with_reducible first | exact HB.out | apply below_alloc | apply pw_below_drewN | apply below_drew1) | exact HB.out)) hb); clear HB; have HB := n0_; clear n0_; (try clear hb); (try clear hb2); (try clear hk); (try clear hi)))
                  go_meet
                  case rel => exact ⟨_, (true), (by first | rfl | (simp; done) | (simp [*]; done) | (simp [bne_nil_]; done)), H', ⟨by have := HK1.out; first | omega | exact Nat.le_refl _⟩, ⟨by repeat (first | (with_reducible first | exact HB.out | apply below_alloc | apply pw_below_drewN | apply below_drew1) | exact HB.out)⟩⟩
            case rest =>
              clear HC5
              try clear c1
              try clear p1
              try clear q1
              try clear hx1
              try clear c2
              try clear c2b0
              try clear p2
              try clear c3
              try clear c3b0
              try clear c4
              try clear c4b0
              try clear c6
              try clear c6b0
              try clear c6b1
              try clear p6
              try clear c8
              try clear c9
              try clear c9b0
              try clear c9b1
              try clear c11
              try clear c11b0
              try clear p11
              try clear q11
              try clear hx11
              try clear c12
              try clear c12b0
              try clear hx113_0
              try clear hx115_0
              try clear hx115_1
              try clear hx115_2
              try clear p113
              try clear p115
              try clear q113
              try clear q115
              obtain ⟨kq, x34_4, rfl, HA, HJ4, HB⟩ := hcut
              cases kq with
              | zero => exact absurd HA.out (by simp [laws_tokens.j1])
              | succ kj4 =>
                have H := HA.out
                clear HA
                simp only [laws_tokens.j1] at H
                by_cases c18 : x34_4 = true
                · subst c18
                  have H1 : (some false) = some r := by rw [if_pos rfl] at H; exact H
                  clear H
                  have H := H1
                  clear H1
                  obtain rfl := Option.some.inj H
                  go_wp2
                  go_ret
                  exact ⟨by first | rfl | (simp [errW_none, errW_some] <;> rfl) | (simp [*, errW_none, errW_some] <;> rfl) | (simp [bne_nil_]; done), by repeat (first | (with_reducible first | exact HB.out | apply below_alloc | apply pw_below_drewN | apply below_drew1) | exact HB.out)⟩
                · replace c18 := Bool.eq_false_iff.mpr c18
                  subst c18
                  have H1 : (laws_tokens.l1 kj4 l0 (l0.length : Int) x9_1 (rd_L3 l0 x9_1) ((rd_L3 l0 x9_1).length : Int) 0) = some r := by rw [if_neg (show ¬ (false = true) by decide)] at H; exact H
                  clear H
                  have H := H1
                  clear H1
                  have H' := Aside0.mk H
                  clear H
                  go_wp2
                  go_loopg [37] kj4 (fun kq v37 w' => ∃ (x37_3 : Int), v37 = .int .i64 x37_3 ∧ Aside0 (laws_tokens.l1 kq l0 (l0.length : Int) x9_1 (rd_L3 l0 x9_1) ((rd_L3 l0 x9_1).length : Int) x37_3 = some r) ∧ Aside0 (kq ≤ kj4) ∧ Aside0 (Below w.heap.size w w'))
                  case atStart => exact ⟨(0), (by first | rfl | (simp; done) | (simp [*]; done) | (simp [bne_nil_]; done)), H', ⟨Nat.le_refl _⟩, ⟨by repeat (first | (with_reducible first | exact HB.out | apply below_alloc | apply pw_below_drewN | apply below_drew1) | exact HB.out)⟩⟩
                  case round =>
                    clear H'
                    try clear c1
                    try clear p1
                    try clear q1
                    try clear hx1
                    try clear c2
                    try clear c2b0
                    try clear p2
                    try clear c3
                    try clear c3b0
                    try clear c4
                    try clear c4b0
                    try clear c6
                    try clear c6b0
                    try clear c6b1
                    try clear p6
                    try clear c8
                    try clear c9
                    try clear c9b0
                    try clear c9b1
                    try clear c11
                    try clear c11b0
                    try clear p11
                    try clear q11
                    try clear hx11
                    try clear c12
                    try clear c12b0
                    try clear c18
                    try clear hx113_0
                    try clear hx115_0
                    try clear hx115_1
                    try clear hx115_2
                    try clear p1
                    try clear p11
                    try clear p113
                    try clear p115
                    try clear p2
                    try clear p6
                    try clear q1
                    try clear q11
                    try clear q113
                    try clear q115
                    obtain ⟨x37_3, rfl, HA, HK3, HB⟩ := hrel
                    cases gk with
                    | zero => exact absurd HA.out (by simp [laws_tokens.l1])
                    | succ k3 =>
                      have H := HA.out
                      clear HA
                      simp only [laws_tokens.l1] at H
                      by_cases c19 : x37_3 < ((rd_L3 l0 x9_1).length : Int)
                      · rw [if_pos c19] at H
                        have c19b0 : decide (x37_3 < ((rd_L3 l0 x9_1).length : Int)) = true := decide_eq_true c19
                        clear c19
                        by_cases c20 : 0 ≤ x37_3
                        · rw [if_pos c20] at H
                          have c20b0 : decide (0 ≤ x37_3) = true := decide_eq_true c20
                          clear c20
                          by_cases c21 : x37_3 < ((rd_L3 l0 x9_1).length : Int)
                          · rw [if_pos c21] at H
                            have c21b0 : decide (x37_3 < ((rd_L3 l0 x9_1).length : Int)) = true := decide_eq_true c21
                            clear c21
                            obtain ⟨y119, hy119⟩ : ∃ y_ : List ByteArray, y_ = (([(rd_T31 (rd_L3 l0 x9_1) x37_3).f0, (rd_T31 (rd_L3 l0 x9_1) x37_3).f1] : List ByteArray)) := ⟨_, rfl⟩
                            replace H : ((laws_short.f k3 y119).bind fun t122 => (if t122 = true then (laws_tokens.l1 k3 l0 (l0.length : Int) x9_1 (rd_L3 l0 x9_1) ((rd_L3 l0 x9_1).length : Int) (wrap64 (x37_3 + 1))) else (some false))) = some r := by first | (rw [hy119]; with_reducible exact H) | (have H2_ := (Option.bind_some _ _).symm.trans H; rw [hy119]; with_reducible exact H2_) | (have H2_ := (Option.bind_some _ _).symm.trans H; with_reducible exact H2_) | with_reducible exact H | (rw [hy119]; exact H) | exact H
                            have Ny119 := Aside0.mk hy119
                            clear hy119
                            replace H := Option.bind_eq_some_iff.mp H
                            obtain ⟨t122, A220, H⟩ := H
                            replace H : (if t122 = true then (laws_tokens.l1 k3 l0 (l0.length : Int) x9_1 (rd_L3 l0 x9_1) ((rd_L3 l0 x9_1).length : Int) (wrap64 (x37_3 + 1))) else (some false)) = some r := H
                            have A22 := Aside0.mk A220
                            clear A220
                            by_cases c23 : t122 = true
                            · subst c23
                              have H1 : (laws_tokens.l1 k3 l0 (l0.length : Int) x9_1 (rd_L3 l0 x9_1) ((rd_L3 l0 x9_1).length : Int) (wrap64 (x37_3 + 1))) = some r := by rw [if_pos rfl] at H; exact H
                              clear H
                              have H := H1
                              clear H1
                              have H' := Aside0.mk H
                              clear H
                              have p117 : 0 ≤ (x37_3 : Int) := of_decide_eq_true (by first | (with_reducible assumption) | assumption)
                              have q117 : x37_3 < ((rd_L3 l0 x9_1).length : Int) := of_decide_eq_true (by first | (with_reducible assumption) | assumption)
                              obtain ⟨ad117, e117, hx117_0, hx117_1, hx117_2⟩ := at_T31 HR113_0.out x37_3 p117 q117
                              cases e117
                              replace hx117_0 := (HB.out.cell (World.block_lt_of_cell? w _ hx117_0)).trans hx117_0
                              replace hx117_1 := (HB.out.cell (World.block_lt_of_cell? w _ hx117_1)).trans hx117_1
                              replace hx117_2 := (HB.out.cell (World.block_lt_of_cell? w _ hx117_2)).trans hx117_2
                              replace p117 := eq_true p117
                              replace q117 := eq_true q117
                              go_wp2_with (first | ((with_reducible refine gate_dst (N := 6) rfl ?_); (try (refine gate_guard (by rfl) ?_; dsimp only)); refine box_event ?hg (N := 6) ?hd (cs := #[.string (⟨#[]⟩ : ByteArray), .string (⟨#[]⟩ : ByteArray), .bool false]) (t := 31) ?hr ?_; (case hd => rfl); (case hg => rfl); (case hr => first | (go_simp; done) | (go_simp; rfl)); intro gb118 hg w24 hbox hb; have n0_ := Aside0.mk (below_step (by repeat (first | (with_reducible first | exact HB.out | apply below_alloc | apply pw_below_drewN | apply below_drew1) | exact HB.out)) hb); have n1_ := Aside0.mk (hbox); have n2_ := Aside0.mk ((by rw [hg]; exact (below_size (by repeat (first | (with_reducible first | exact HB.out | apply below_alloc | apply pw_below_drewN | apply below_drew1) | exact HB.out))) : w.heap.size ≤ gb118)); have n3_ := Aside0.mk ((by rw [hg]; exact (below_size (by repeat (first | (with_reducible first | exact HB.out | apply below_alloc | apply pw_below_drewN | apply below_drew1) | exact HB.out))) : w.heap.size ≤ gb118)); clear HB; have HB := n0_; have BK118 := n1_; have GW118 := n2_; have GE118 := n3_; clear n0_ n1_ n2_ n3_; clear hb hbox hg; have hcz25_0 : w24.cell? ⟨gb118, 0, none⟩ = some (.string (⟨#[]⟩ : ByteArray)) := (blk_cell BK118.out 0).trans rfl; have hcz25_1 : w24.cell? ⟨gb118, 1, none⟩ = some (.string (⟨#[]⟩ : ByteArray)) := (blk_cell BK118.out 1).trans rfl; have hcz25_2 : w24.cell? ⟨gb118, 2, none⟩ = some (.bool false) := (blk_cell BK118.out 2).trans rfl; have hfz25_0 := blk_frozen BK118.out 0; have hfz25_1 := blk_frozen BK118.out 1; have hfz25_2 := blk_frozen BK118.out 2) | ((with_reducible refine gate_dst (N := 45) rfl ?_); (try (refine gate_guard (by rfl) ?_; dsimp only)); refine Kd.R_lit Kd.string _ 9 ?hg (N := 45) ?hd (xs := ([(rd_T31 (rd_L3 l0 x9_1) x37_3).f0, (rd_T31 (rd_L3 l0 x9_1) x37_3).f1] : List ByteArray)) (inner := [.string ((rd_T31 (rd_L3 l0 x9_1) x37_3).f0), .string ((rd_T31 (rd_L3 l0 x9_1) x37_3).f1)]) (ok := fun _ => True) (okp := fun _ => True) ?hr ?hp (fun _ hk => hk) trivial (Below.refl _ _) (Nat.le_refl _) (by simp) ?_; (case hd => rfl); (case hg => rfl); (case hr => first | (go_simp; done) | (go_simp; rfl)); (case hp => exact (Reps.one (show Kd.M Kd.string _ _ _ ((rd_T31 (rd_L3 l0 x9_1) x37_3).f0) [.string ((rd_T31 (rd_L3 l0 x9_1) x37_3).f0)] from rfl) (Reps.one (show Kd.M Kd.string _ _ _ ((rd_T31 (rd_L3 l0 x9_1) x37_3).f1) [.string ((rd_T31 (rd_L3 l0 x9_1) x37_3).f1)] from rfl) (Reps.none _ _)))); intro v120 w26 ho27 hb hg_ hnew_; clear hg_ hnew_; (first | rw [← Ny119.out] at ho27 | (simp only [Int.reduceToNat] at ho27; rw [← Ny119.out] at ho27)); have n0_ := Aside0.mk (Kd.R_lower ho27 (below_size (by repeat (first | (with_reducible first | exact HB.out | apply below_alloc | apply pw_below_drewN | apply below_drew1 | refine below_set ?_ GE118.out) | exact HB.out)))); have n1_ := Aside0.mk (blk_below (g := gb118) (o := .cells #[.string ((rd_T31 (rd_L3 l0 x9_1) x37_3).f0), .string ((rd_T31 (rd_L3 l0 x9_1) x37_3).f1), .bool ((rd_T31 (rd_L3 l0 x9_1) x37_3).f2)] 31 (0, 0)) (by (with_reducible repeat (first | refine blk_drewN ?_ _ | refine blk_drew ?_ | refine blk_alloc ?_ _)); refine blk_put (cs := #[.string ((rd_T31 (rd_L3 l0 x9_1) x37_3).f0), .string ((rd_T31 (rd_L3 l0 x9_1) x37_3).f1), .bool false]) ?_ 2 _ rfl; (with_reducible repeat (first | refine blk_drewN ?_ _ | refine blk_drew ?_ | refine blk_alloc ?_ _)); refine blk_put (cs := #[.string ((rd_T31 (rd_L3 l0 x9_1) x37_3).f0), .string (⟨#[]⟩ : ByteArray), .bool false]) ?_ 1 _ rfl; (with_reducible repeat (first | refine blk_drewN ?_ _ | refine blk_drew ?_ | refine blk_alloc ?_ _)); refine blk_put (cs := #[.string (⟨#[]⟩ : ByteArray), .string (⟨#[]⟩ : ByteArray), .bool false]) ?_ 0 _ rfl; (with_reducible repeat (first | refine blk_drewN ?_ _ | refine blk_drew ?_ | refine blk_alloc ?_ _)); exact BK118.out) hb); have n2_ := Aside0.mk (below_step (by repeat (first | (with_reducible first | exact HB.out | apply below_alloc | apply pw_below_drewN | apply below_drew1 | refine below_set ?_ GE118.out) | exact HB.out)) hb); clear BK118; clear HB; have HO121 := n0_; have BK118 := n1_; have HB := n2_; clear n0_ n1_ n2_; clear hb ho27; obtain ⟨Ao28, co28, eo28⟩ := Kd.R_slice HO121.out; subst eo28) | ((with_reducible refine gate_callee (f := 9) rfl ?_); refine goesL_ (some 46) rfl rfl Tryd.func9 (by kernel_rfl) rfl #[.slice Ao28 y119.length co28] rfl (by (try simp only [List.map_toArray, List.map_cons, List.map_nil]); first | done | rfl | (simp only [List.length_drop, List.length_take]; rfl)) ?_; (with_reducible refine (laws_short.calls k3 _ _ y119 true _ ?side1 ?side2 A22.out).mono ?_); (case side1 => repeat (first | exact (Kd.R_reads' HO121.out).2.2 | (with_reducible refine Kd.C_alloc ?_ _) | (with_reducible refine Kd.C_drewN ?_ _) | (with_reducible refine Kd.C_drew ?_))); (case side2 => exact (Kd.R_reads' HO121.out).2.1); rintro e w' ⟨rfl, ⟨nd, rfl⟩⟩; refine ⟨_, rfl, ?_⟩))
                              go_roundg k3
                              case measure => have := HK1.out; have := HJ4.out; have := HK3.out; omega
                              case rel => exact ⟨(wrap64 (x37_3 + 1)), (by first | rfl | (simp; done) | (simp [*]; done) | (simp [bne_nil_]; done)), H', ⟨by have := HK1.out; have := HJ4.out; have := HK3.out; omega⟩, ⟨by repeat (first | (with_reducible first | exact HB.out | apply below_alloc | apply pw_below_drewN | apply below_drew1 | refine below_set ?_ GE118.out) | exact HB.out)⟩⟩
                            · replace c23 := Bool.eq_false_iff.mpr c23
                              subst c23
                              have H1 : (some false) = some r := by rw [if_neg (show ¬ (false = true) by decide)] at H; exact H
                              clear H
                              have H := H1
                              clear H1
                              obtain rfl := Option.some.inj H
                              have p117 : 0 ≤ (x37_3 : Int) := of_decide_eq_true (by first | (with_reducible assumption) | assumption)
                              have q117 : x37_3 < ((rd_L3 l0 x9_1).length : Int) := of_decide_eq_true (by first | (with_reducible assumption) | assumption)
                              obtain ⟨ad117, e117, hx117_0, hx117_1, hx117_2⟩ := at_T31 HR113_0.out x37_3 p117 q117
                              cases e117
                              replace hx117_0 := (HB.out.cell (World.block_lt_of_cell? w _ hx117_0)).trans hx117_0
                              replace hx117_1 := (HB.out.cell (World.block_lt_of_cell? w _ hx117_1)).trans hx117_1
                              replace hx117_2 := (HB.out.cell (World.block_lt_of_cell? w _ hx117_2)).trans hx117_2
                              replace p117 := eq_true p117
                              replace q117 := eq_true q117
                              go_wp2_with (first | ((with_reducible refine gate_dst (N := 6) rfl ?_); (try (refine gate_guard (by rfl) ?_; dsimp only)); refine box_event ?hg (N := 6) ?hd (cs := #[.string (⟨#[]⟩ : ByteArray), .string (⟨#[]⟩ : ByteArray), .bool false]) (t := 31) ?hr ?_; (case hd => rfl); (case hg => rfl); (case hr => first | (go_simp; done) | (go_simp; rfl)); intro gb118 hg w29 hbox hb; have n0_ := Aside0.mk (below_step (by repeat (first | (with_reducible first | exact HB.out | apply below_alloc | apply pw_below_drewN | apply below_drew1) | exact HB.out)) hb); have n1_ := Aside0.mk (hbox); have n2_ := Aside0.mk ((by rw [hg]; exact (below_size (by repeat (first | (with_reducible first | exact HB.out | apply below_alloc | apply pw_below_drewN | apply below_drew1) | exact HB.out))) : w.heap.size ≤ gb118)); have n3_ := Aside0.mk ((by rw [hg]; exact (below_size (by repeat (first | (with_reducible first | exact HB.out | apply below_alloc | apply pw_below_drewN | apply below_drew1) | exact HB.out))) : w.heap.size ≤ gb118)); clear HB; have HB := n0_; have BK118 := n1_; have GW118 := n2_; have GE118 := n3_; clear n0_ n1_ n2_ n3_; clear hb hbox hg; have hcz30_0 : w29.cell? ⟨gb118, 0, none⟩ = some (.string (⟨#[]⟩ : ByteArray)) := (blk_cell BK118.out 0).trans rfl; have hcz30_1 : w29.cell? ⟨gb118, 1, none⟩ = some (.string (⟨#[]⟩ : ByteArray)) := (blk_cell BK118.out 1).trans rfl; have hcz30_2 : w29.cell? ⟨gb118, 2, none⟩ = some (.bool false) := (blk_cell BK118.out 2).trans rfl; have hfz30_0 := blk_frozen BK118.out 0; have hfz30_1 := blk_frozen BK118.out 1; have hfz30_2 := blk_frozen BK118.out 2) | ((with_reducible refine gate_dst (N := 45) rfl ?_); (try (refine gate_guard (by rfl) ?_; dsimp only)); refine Kd.R_lit Kd.string _ 9 ?hg (N := 45) ?hd (xs := ([(rd_T31 (rd_L3 l0 x9_1) x37_3).f0, (rd_T31 (rd_L3 l0 x9_1) x37_3).f1] : List ByteArray)) (inner := [.string ((rd_T31 (rd_L3 l0 x9_1) x37_3).f0), .string ((rd_T31 (rd_L3 l0 x9_1) x37_3).f1)]) (ok := fun _ => True) (okp := fun _ => True) ?hr ?hp (fun _ hk => hk) trivial (Below.refl _ _) (Nat.le_refl _) (by simp) ?_; (case hd => rfl); (case hg => rfl); (case hr => first | (go_simp; done) | (go_simp; rfl)); (case hp => exact (Reps.one (show Kd.M Kd.string _ _ _ ((rd_T31 (rd_L3 l0 x9_1) x37_3).f0) [.string ((rd_T31 (rd_L3 l0 x9_1) x37_3).f0)] from rfl) (Reps.one (show Kd.M Kd.string _ _ _ ((rd_T31 (rd_L3 l0 x9_1) x37_3).f1) [.string ((rd_T31 (rd_L3 l0 x9_1) x37_3).f1)] from rfl) (Reps.none _ _)))); intro v120 w31 ho32 hb hg_ hnew_; clear hg_ hnew_; (first | rw [← Ny119.out] at ho32 | (simp only [Int.reduceToNat] at ho32; rw [← Ny119.out] at ho32)); have n0_ := Aside0.mk (Kd.R_lower ho32 (below_size (by repeat (first | (with_reducible first | exact HB.out | apply below_alloc | apply pw_below_drewN | apply below_drew1 | refine below_set ?_ GE118.out) | exact HB.out)))); have n1_ := Aside0.mk (blk_below (g := gb118) (o := .cells #[.string ((rd_T31 (rd_L3 l0 x9_1) x37_3).f0), .string ((rd_T31 (rd_L3 l0 x9_1) x37_3).f1), .bool ((rd_T31 (rd_L3 l0 x9_1) x37_3).f2)] 31 (0, 0)) (by (with_reducible repeat (first | refine blk_drewN ?_ _ | refine blk_drew ?_ | refine blk_alloc ?_ _)); refine blk_put (cs := #[.string ((rd_T31 (rd_L3 l0 x9_1) x37_3).f0), .string ((rd_T31 (rd_L3 l0 x9_1) x37_3).f1), .bool false]) ?_ 2 _ rfl; (with_reducible repeat (first | refine blk_drewN ?_ _ | refine blk_drew ?_ | refine blk_alloc ?_ _)); refine blk_put (cs := #[.string ((rd_T31 (rd_L3 l0 x9_1) x37_3).f0), .string (⟨#[]⟩ : ByteArray), .bool false]) ?_ 1 _ rfl; (with_reducible repeat (first | refine blk_drewN ?_ _ | refine blk_drew ?_ | refine blk_alloc ?_ _)); refine blk_put (cs := #[.string (⟨#[]⟩ : ByteArray), .string (⟨#[]⟩ : ByteArray), .bool false]) ?_ 0 _ rfl; (with_reducible repeat (first | refine blk_drewN ?_ _ | refine blk_drew ?_ | refine blk_alloc ?_ _)); exact BK118.out) hb); have n2_ := Aside0.mk (below_step (by repeat (first | (with_reducible first | exact HB.out | apply below_alloc | apply pw_below_drewN | apply below_drew1 | refine below_set ?_ GE118.out) | exact HB.out)) hb); clear BK118; clear HB; have HO121 := n0_; have BK118 := n1_; have HB := n2_; clear n0_ n1_ n2_; clear hb ho32; obtain ⟨Ao33, co33, eo33⟩ := Kd.R_slice HO121.out; subst eo33) | ((with_reducible refine gate_callee (f := 9) rfl ?_); refine goesL_ (some 46) rfl rfl Tryd.func9 (by kernel_rfl) rfl #[.slice Ao33 y119.length co33] rfl (by (try simp only [List.map_toArray, List.map_cons, List.map_nil]); first | done | rfl | (simp only [List.length_drop, List.length_take]; rfl)) ?_; (with_reducible refine (laws_short.calls k3 _ _ y119 false _ ?side1 ?side2 A22.out).mono ?_); (case side1 => repeat (first | exact (Kd.R_reads' HO121.out).2.2 | (with_reducible refine Kd.C_alloc ?_ _) | (with_reducible refine Kd.C_drewN ?_ _) | (with_reducible refine Kd.C_drew ?_))); (case side2 => exact (Kd.R_reads' HO121.out).2.1); rintro e w' ⟨rfl, ⟨nd, rfl⟩⟩; refine ⟨_, rfl, ?_⟩))
                              go_ret
                              exact ⟨by first | rfl | (simp [errW_none, errW_some] <;> rfl) | (simp [*, errW_none, errW_some] <;> rfl) | (simp [bne_nil_]; done), by repeat (first | (with_reducible first | exact HB.out | apply below_alloc | apply pw_below_drewN | apply below_drew1 | refine below_set ?_ GE118.out) | exact HB.out)⟩
                          · rw [if_neg c21] at H
                            exact absurd H (by simp)
                        · rw [if_neg c20] at H
                          exact absurd H (by simp)
                      · rw [if_neg c19] at H
                        have c19b0 : decide (x37_3 < ((rd_L3 l0 x9_1).length : Int)) = false := decide_eq_false c19
                        clear c19
                        have H' := Aside0.mk H
                        clear H
                        go_wp2
                        go_roundg k3
                        case measure => have := HK1.out; have := HJ4.out; have := HK3.out; omega
                        case rel => exact ⟨(wrap64 (x9_1 + 1)), (by first | rfl | (simp; done) | (simp [*]; done) | (simp [bne_nil_]; done)), H', ⟨by have := HK1.out; have := HJ4.out; have := HK3.out; omega⟩, ⟨by repeat (first | (with_reducible first | exact HB.out | apply below_alloc | apply pw_below_drewN | apply below_drew1) | exact HB.out)⟩⟩
          · rw [if_neg c4] at H
            exact absurd H (by simp)
        · rw [if_neg c3] at H
          exact absurd H (by simp)
      · rw [if_neg c2] at H
        have c2b0 : decide (x9_1 < (l0.length : Int)) = false := decide_eq_false c2
        clear c2
        obtain rfl := Option.some.inj H
        go_wp2
        go_ret
        exact ⟨by first | rfl | (simp [errW_none, errW_some] <;> rfl) | (simp [*, errW_none, errW_some] <;> rfl) | (simp [bne_nil_]; done), by repeat (first | (with_reducible first | exact HB.out | apply below_alloc | apply pw_below_drewN | apply below_drew1) | exact HB.out)⟩

/-! ### spec_TokenNull: function 19 -/
def spec_TokenNull.j0 : Nat → Bool → ByteArray → ByteArray → Bool → Option (ByteArray × ByteArray × Bool × Bool)
  | 0, _, _, _, _ => none
  | k + 1, x4, x124000, x124001, x124002 => if x4 = true then (some (x124000, (⟨#[]⟩ : ByteArray), true, true)) else (if x124000.toList = ([46] : List UInt8) then (some (x124000, (⟨#[48]⟩ : ByteArray), true, true)) else (some ((⟨#[]⟩ : ByteArray), (⟨#[]⟩ : ByteArray), false, false)))
def spec_TokenNull.f (k : Nat) (a0_0 : ByteArray) (a0_1 : ByteArray) (a0_2 : Bool) : Option (ByteArray × ByteArray × Bool × Bool) := if a0_0.toList = ([45] : List UInt8) then (spec_TokenNull.j0 k (a0_0.toList == ([45] : List UInt8)) a0_0 a0_1 a0_2) else (if a0_0.toList = ([46] : List UInt8) then (spec_TokenNull.j0 k (a0_1.toList == ([115, 112] : List UInt8)) a0_0 a0_1 a0_2) else (spec_TokenNull.j0 k false a0_0 a0_1 a0_2))
theorem spec_TokenNull.mono_l : ∀ k, (∀ y0 y1 y2 y3, LeO (spec_TokenNull.j0 k y0 y1 y2 y3) (spec_TokenNull.j0 (k + 1) y0 y1 y2 y3))
  | 0 => fun _ _ _ _ r h => by simp [spec_TokenNull.j0] at h
  | k + 1 => by
    have ih0 := spec_TokenNull.mono_l k
    · intro y0 y1 y2 y3
      unfold spec_TokenNull.j0
      repeat' first
      | (with_reducible exact ih0 _ _ _ _)
      | (with_reducible exact LeO.refl _)
      | (with_reducible exact LeO.none _)
      | (with_reducible refine LeO.ite ?_ ?_)
      | (with_reducible refine LeO.bind ?_ (fun _ => ?_))
      | exact ih0 _ _ _ _
      | exact LeO.none _
      | refine LeO.ite ?_ ?_
      | refine LeO.bind ?_ (fun _ => ?_)
theorem spec_TokenNull.mono : ∀ a0 a1 a2 k, LeO (spec_TokenNull.f k a0 a1 a2) (spec_TokenNull.f (k + 1) a0 a1 a2) := by
  intro a0 a1 a2 k
  have ih0 := spec_TokenNull.mono_l k
  unfold spec_TokenNull.f
  repeat' first
      | (with_reducible exact ih0 _ _ _ _)
      | (with_reducible exact LeO.refl _)
      | (with_reducible exact LeO.none _)
      | (with_reducible refine LeO.ite ?_ ?_)
      | (with_reducible refine LeO.bind ?_ (fun _ => ?_))
      | exact ih0 _ _ _ _
      | exact LeO.none _
      | refine LeO.ite ?_ ?_
      | refine LeO.bind ?_ (fun _ => ?_)
set_option maxHeartbeats 8000000 in
set_option maxRecDepth 100000 in
theorem spec_TokenNull.calls (k : Nat) (a0_0 : ByteArray) (a0_1 : ByteArray) (a0_2 : Bool) (r1 : ByteArray) (r2 : ByteArray) (r3 : Bool) (r4 : Bool) (w : World) (h : spec_TokenNull.f k a0_0 a0_1 a0_2 = some (r1, r2, r3, r4)) :
    Calls Tryd.prog 19 #[.agg #[.string a0_0, .string a0_1, .bool a0_2]] w fun e w' => e = .returned (.tuple #[.agg #[.string r1, .string r2, .bool r3], .bool r4]) ∧ Below w.heap.size w w' := by
  have hu31 := Tryd.underlying31
  have HB := Aside0.mk (Below.refl w.heap.size w)
  have H : (if a0_0.toList = ([45] : List UInt8) then (spec_TokenNull.j0 k (a0_0.toList == ([45] : List UInt8)) a0_0 a0_1 a0_2) else (if a0_0.toList = ([46] : List UInt8) then (spec_TokenNull.j0 k (a0_1.toList == ([115, 112] : List UInt8)) a0_0 a0_1 a0_2) else (spec_TokenNull.j0 k false a0_0 a0_1 a0_2))) = some (r1, r2, r3, r4) := h
  clear h
  have HC2 := Aside0.mk H
  clear H
  go_enter Tryd.func19, Tryd.ntmps19
  go_upto_if 4 with (first | ((with_reducible refine gate_dst (N := 1) rfl ?_); refine box_event ?hg (N := 1) ?hd (cs := #[.string a0_0, .string a0_1, .bool a0_2]) (t := 31) ?hr ?_; (case hd => rfl); (case hg => rfl); (case hr => first | (go_simp; done) | (go_simp; rfl)); intro gb123 hg w3 hbox hb; have n0_ := Aside0.mk (below_step (by repeat (first | (with_reducible first | exact HB.out | apply below_alloc | apply pw_below_drewN | apply below_drew1) | exact HB.out)) hb); have n1_ := Aside0.mk (hbox); have n2_ := Aside0.mk ((by rw [hg]; exact (below_size (by repeat (first | (with_reducible first | exact HB.out | apply below_alloc | apply pw_below_drewN | apply below_drew1) | exact HB.out))) : w.heap.size ≤ gb123)); have n3_ := Aside0.mk ((by rw [hg]; exact (below_size (by repeat (first | (with_reducible first | exact HB.out | apply below_alloc | apply pw_below_drewN | apply below_drew1) | exact HB.out))) : w.heap.size ≤ gb123)); clear HB; have HB := n0_; have BK123 := n1_; have GW123 := n2_; have GE123 := n3_; clear n0_ n1_ n2_ n3_; clear hb hbox hg) | ((with_reducible refine gate_dst (N := 2) rfl ?_); refine box_event ?hg (N := 2) ?hd (cs := #[.string (⟨#[]⟩ : ByteArray), .string (⟨#[]⟩ : ByteArray), .bool false]) (t := 31) ?hr ?_; (case hd => rfl); (case hg => rfl); (case hr => first | (go_simp; done) | (go_simp; rfl)); intro gb124 hg w4 hbox hb; have n0_ := Aside0.mk (blk_below (g := gb123) (o := .cells #[.string a0_0, .string a0_1, .bool a0_2] 31 (0, 0)) (by (with_reducible repeat (first | refine blk_drewN ?_ _ | refine blk_drew ?_ | refine blk_alloc ?_ _)); exact BK123.out) hb); have n1_ := Aside0.mk (below_step (by repeat (first | (with_reducible first | exact HB.out | apply below_alloc | apply pw_below_drewN | apply below_drew1 | refine below_set ?_ GE123.out) | exact HB.out)) hb); have n2_ := Aside0.mk (hbox); have n3_ := Aside0.mk ((by rw [hg]; exact (below_size (by repeat (first | (with_reducible first | exact HB.out | apply below_alloc | apply pw_below_drewN | apply below_drew1 | refine below_set ?_ GE123.out) | exact HB.out))) : w.heap.size ≤ gb124)); have n4_ := Aside0.mk ((by rw [hg]; exact (below_size (by repeat (first | (with_reducible first | exact HB.out | apply below_alloc | apply pw_below_drewN | apply below_drew1 | refine below_set ?_ GE123.out) | exact HB.out))) : w.heap.size ≤ gb124)); have n5_ := Aside0.mk ((by rw [hg]; exact Nat.ne_of_lt (blk_lt (g := gb123) (o := .cells #[.string a0_0, .string a0_1, .bool a0_2] 31 (0, 0)) (by (with_reducible repeat (first | refine blk_drewN ?_ _ | refine blk_drew ?_ | refine blk_alloc ?_ _)); exact BK123.out)) : gb123 ≠ gb124)); have n6_ := Aside0.mk ((by rw [hg]; exact Nat.ne_of_gt (blk_lt (g := gb123) (o := .cells #[.string a0_0, .string a0_1, .bool a0_2] 31 (0, 0)) (by (with_reducible repeat (first | refine blk_drewN ?_ _ | refine blk_drew ?_ | refine blk_alloc ?_ _)); exact BK123.out)) : gb124 ≠ gb123)); clear BK123; clear HB; have BK123 := n0_; have HB := n1_; have BK124 := n2_; have GW124 := n3_; have GE124 := n4_; have NB123_124 := n5_; have NB124_123 := n6_; clear n0_ n1_ n2_ n3_ n4_ n5_ n6_; clear hb hbox hg; have hnb5 := NB123_124.out; have hnc5 := NB124_123.out; have hcz6_0 : w4.cell? ⟨gb123, 0, none⟩ = some (.string a0_0) := (blk_cell BK123.out 0).trans rfl; have hcz6_1 : w4.cell? ⟨gb123, 1, none⟩ = some (.string a0_1) := (blk_cell BK123.out 1).trans rfl; have hcz6_2 : w4.cell? ⟨gb123, 2, none⟩ = some (.bool a0_2) := (blk_cell BK123.out 2).trans rfl; have hfz6_0 := blk_frozen BK123.out 0; have hfz6_1 := blk_frozen BK123.out 1; have hfz6_2 := blk_frozen BK123.out 2))
  (try simp only [Act.put, List.setIfInBounds_toArray, List.set_cons_zero, List.set_cons_succ])
  go_cut [4] (fun v4 wc => ∃ (kq : Nat) (x4_1 : Bool), v4 = .bool x4_1 ∧ Aside0 (spec_TokenNull.j0 kq x4_1 a0_0 a0_1 a0_2 = some (r1, r2, r3, r4)) ∧ Aside0 (kq ≤ k) ∧ Aside0 (wc.heap[gb123]? = some (.cells #[.string a0_0, .string a0_1, .bool a0_2] 31 (0, 0))) ∧ Aside0 (wc.heap[gb124]? = some (.cells #[.string (⟨#[]⟩ : ByteArray), .string (⟨#[]⟩ : ByteArray), .bool false] 31 (0, 0))) ∧ Aside0 (Below w.heap.size w wc))
  case first =>
    have H := HC2.out
    clear HC2
    by_cases c7 : a0_0.toList = ([45] : List UInt8)
    · rw [if_pos c7] at H
      have c7b0 : (a0_0.toList == ([45] : List UInt8)) = true := beq_iff_eq.mpr c7
      have c7b1 : (a0_0.toList != ([45] : List UInt8)) = false := bne_eq_false_iff_eq.mpr c7
      clear c7
      (first | rw [c7b0] | (simp only [i64_w, i32_w]; rw [c7b0]) | skip)
      have H' := Aside0.mk H
      clear H
      go_wp2
      go_meet
      case rel => exact ⟨_, ((a0_0.toList == ([45] : List UInt8))), (by first | rfl | (simp; done) | (simp [*]; done) | (simp [bne_nil_]; done)), H', ⟨by first | omega | exact Nat.le_refl _⟩, ⟨by (with_reducible repeat (first | refine blk_drewN ?_ _ | refine blk_drew ?_ | refine blk_alloc ?_ _)); exact BK123.out⟩, ⟨by (with_reducible repeat (first | refine blk_drewN ?_ _ | refine blk_drew ?_ | refine blk_alloc ?_ _)); exact BK124.out⟩, ⟨by repeat (first | (with_reducible first | exact HB.out | apply below_alloc | apply pw_below_drewN | apply below_drew1 | refine below_set ?_ GE123.out | refine below_set ?_ GE124.out) | exact HB.out)⟩⟩
    · rw [if_neg c7] at H
      have c7b0 : (a0_0.toList == ([45] : List UInt8)) = false := beq_eq_false_iff_ne.mpr c7
      have c7b1 : (a0_0.toList != ([45] : List UInt8)) = true := bne_iff_ne.mpr c7
      (first | rw [c7b0] | (simp only [i64_w, i32_w]; rw [c7b0]) | skip)
      by_cases c8 : a0_0.toList = ([46] : List UInt8)
      · rw [if_pos c8] at H
        have c8b0 : (a0_0.toList == ([46] : List UInt8)) = true := beq_iff_eq.mpr c8
        have c8b1 : (a0_0.toList != ([46] : List UInt8)) = false := bne_eq_false_iff_eq.mpr c8
        clear c8
        have H' := Aside0.mk H
        clear H
        have hnb9 := NB123_124.out
        have hnc9 := NB124_123.out
        have hcz10_0 : w4.cell? ⟨gb123, 0, none⟩ = some (.string a0_0) := (blk_cell BK123.out 0).trans rfl
        have hcz10_1 : w4.cell? ⟨gb123, 1, none⟩ = some (.string a0_1) := (blk_cell BK123.out 1).trans rfl
        have hcz10_2 : w4.cell? ⟨gb123, 2, none⟩ = some (.bool a0_2) := (blk_cell BK123.out 2).trans rfl
        have hfz10_0 := blk_frozen BK123.out 0
        have hfz10_1 := blk_frozen BK123.out 1
        have hfz10_2 := blk_frozen BK123.out 2
        go_wp2
        go_meet
        case rel => exact ⟨_, ((a0_1.toList == ([115, 112] : List UInt8))), (by first | rfl | (simp; done) | (simp [*]; done) | (simp [bne_nil_]; done)), H', ⟨by first | omega | exact Nat.le_refl _⟩, ⟨by (with_reducible repeat (first | refine blk_drewN ?_ _ | refine blk_drew ?_ | refine blk_alloc ?_ _)); exact BK123.out⟩, ⟨by (with_reducible repeat (first | refine blk_drewN ?_ _ | refine blk_drew ?_ | refine blk_alloc ?_ _)); exact BK124.out⟩, ⟨by repeat (first | (with_reducible first | exact HB.out | apply below_alloc | apply pw_below_drewN | apply below_drew1 | refine below_set ?_ GE123.out | refine below_set ?_ GE124.out) | exact HB.out)⟩⟩
      · rw [if_neg c8] at H
        have c8b0 : (a0_0.toList == ([46] : List UInt8)) = false := beq_eq_false_iff_ne.mpr c8
        have c8b1 : (a0_0.toList != ([46] : List UInt8)) = true := bne_iff_ne.mpr c8
        have H' := Aside0.mk H
        clear H
        have hnb11 := NB123_124.out
        have hnc11 := NB124_123.out
        have hcz12_0 : w4.cell? ⟨gb123, 0, none⟩ = some (.string a0_0) := (blk_cell BK123.out 0).trans rfl
        have hcz12_1 : w4.cell? ⟨gb123, 1, none⟩ = some (.string a0_1) := (blk_cell BK123.out 1).trans rfl
        have hcz12_2 : w4.cell? ⟨gb123, 2, none⟩ = some (.bool a0_2) := (blk_cell BK123.out 2).trans rfl
        have hfz12_0 := blk_frozen BK123.out 0
        have hfz12_1 := blk_frozen BK123.out 1
        have hfz12_2 := blk_frozen BK123.out 2
        go_wp2
        go_meet
        case rel => exact ⟨_, (false), (by first | rfl | (simp; done) | (simp [*]; done) | (simp [bne_nil_]; done)), H', ⟨by first | omega | exact Nat.le_refl _⟩, ⟨by (with_reducible repeat (first | refine blk_drewN ?_ _ | refine blk_drew ?_ | refine blk_alloc ?_ _)); exact BK123.out⟩, ⟨by (with_reducible repeat (first | refine blk_drewN ?_ _ | refine blk_drew ?_ | refine blk_alloc ?_ _)); exact BK124.out⟩, ⟨by repeat (first | (with_reducible first | exact HB.out | apply below_alloc | apply pw_below_drewN | apply below_drew1 | refine below_set ?_ GE123.out | refine below_set ?_ GE124.out) | exact HB.out)⟩⟩
  case rest =>
    clear HC2
    try clear c1
    try clear p2
    try clear c5
    try clear c7
    try clear c7b0
    try clear c7b1
    try clear c8
    try clear c8b0
    try clear c8b1
    try clear c9
    try clear c11
    try clear hcz10_0
    try clear hcz10_1
    try clear hcz10_2
    try clear hcz12_0
    try clear hcz12_1
    try clear hcz12_2
    try clear hcz6_0
    try clear hcz6_1
    try clear hcz6_2
    try clear hfz10_0
    try clear hfz10_1
    try clear hfz10_2
    try clear hfz12_0
    try clear hfz12_1
    try clear hfz12_2
    try clear hfz6_0
    try clear hfz6_1
    try clear hfz6_2
    obtain ⟨kq, x4_1, rfl, HA, HJ1, BK123, BK124, HB⟩ := hcut
    cases kq with
    | zero => exact absurd HA.out (by simp [spec_TokenNull.j0])
    | succ kj1 =>
      have H := HA.out
      clear HA
      simp only [spec_TokenNull.j0] at H
      by_cases c13 : x4_1 = true
      · subst c13
        have H1 : (some (a0_0, (⟨#[]⟩ : ByteArray), true, true)) = some (r1, r2, r3, r4) := by rw [if_pos rfl] at H; exact H
        clear H
        have H := H1
        clear H1
        simp only [Option.some.injEq, Prod.mk.injEq] at H
        obtain ⟨rfl, rfl, rfl, rfl⟩ := H
        have hnb14 := NB123_124.out
        have hnc14 := NB124_123.out
        have hcz15_0 : wc.cell? ⟨gb123, 0, none⟩ = some (.string a0_0) := (blk_cell BK123.out 0).trans rfl
        have hcz15_1 : wc.cell? ⟨gb123, 1, none⟩ = some (.string a0_1) := (blk_cell BK123.out 1).trans rfl
        have hcz15_2 : wc.cell? ⟨gb123, 2, none⟩ = some (.bool a0_2) := (blk_cell BK123.out 2).trans rfl
        have hfz15_0 := blk_frozen BK123.out 0
        have hfz15_1 := blk_frozen BK123.out 1
        have hfz15_2 := blk_frozen BK123.out 2
        have hcz16_0 : wc.cell? ⟨gb124, 0, none⟩ = some (.string (⟨#[]⟩ : ByteArray)) := (blk_cell BK124.out 0).trans rfl
        have hcz16_1 : wc.cell? ⟨gb124, 1, none⟩ = some (.string (⟨#[]⟩ : ByteArray)) := (blk_cell BK124.out 1).trans rfl
        have hcz16_2 : wc.cell? ⟨gb124, 2, none⟩ = some (.bool false) := (blk_cell BK124.out 2).trans rfl
        have hfz16_0 := blk_frozen BK124.out 0
        have hfz16_1 := blk_frozen BK124.out 1
        have hfz16_2 := blk_frozen BK124.out 2
        go_wp2
        refine bodyPost_ret (results_ct rfl _ _ gb124 31 #[.string a0_0, .string (⟨#[]⟩ : ByteArray), .bool true] (0, 0) _ rfl (by (with_reducible repeat (first | refine blk_drewN ?_ _ | refine blk_drew ?_ | refine blk_alloc ?_ _)); refine blk_put (cs := #[.string a0_0, .string (⟨#[]⟩ : ByteArray), .bool false]) ?_ 2 _ rfl; (with_reducible repeat (first | refine blk_drewN ?_ _ | refine blk_drew ?_ | refine blk_alloc ?_ _)); refine blk_put (cs := #[.string a0_0, .string (⟨#[]⟩ : ByteArray), .bool false]) ?_ 1 _ rfl; (with_reducible repeat (first | refine blk_drewN ?_ _ | refine blk_drew ?_ | refine blk_alloc ?_ _)); refine blk_put (cs := #[.string (⟨#[]⟩ : ByteArray), .string (⟨#[]⟩ : ByteArray), .bool false]) ?_ 0 _ rfl; (with_reducible repeat (first | refine blk_drewN ?_ _ | refine blk_drew ?_ | refine blk_alloc ?_ _)); exact BK124.out) Tryd.underlying31 rfl (by kernel_rfl)) rfl ?_
        exact ⟨by first | rfl | (simp [errW_none, errW_some] <;> rfl) | (simp [*, errW_none, errW_some] <;> rfl) | (simp [bne_nil_]; done), by repeat (first | (with_reducible first | exact HB.out | apply below_alloc | apply pw_below_drewN | apply below_drew1 | refine below_set ?_ GE123.out | refine below_set ?_ GE124.out) | exact HB.out)⟩
      · replace c13 := Bool.eq_false_iff.mpr c13
        subst c13
        have H1 : (if a0_0.toList = ([46] : List UInt8) then (some (a0_0, (⟨#[48]⟩ : ByteArray), true, true)) else (some ((⟨#[]⟩ : ByteArray), (⟨#[]⟩ : ByteArray), false, false))) = some (r1, r2, r3, r4) := by rw [if_neg (show ¬ (false = true) by decide)] at H; exact H
        clear H
        have H := H1
        clear H1
        by_cases c17 : a0_0.toList = ([46] : List UInt8)
        · rw [if_pos c17] at H
          have c17b0 : (a0_0.toList == ([46] : List UInt8)) = true := beq_iff_eq.mpr c17
          have c17b1 : (a0_0.toList != ([46] : List UInt8)) = false := bne_eq_false_iff_eq.mpr c17
          clear c17
          simp only [Option.some.injEq, Prod.mk.injEq] at H
          obtain ⟨rfl, rfl, rfl, rfl⟩ := H
          have hnb18 := NB123_124.out
          have hnc18 := NB124_123.out
          have hcz19_0 : wc.cell? ⟨gb123, 0, none⟩ = some (.string a0_0) := (blk_cell BK123.out 0).trans rfl
          have hcz19_1 : wc.cell? ⟨gb123, 1, none⟩ = some (.string a0_1) := (blk_cell BK123.out 1).trans rfl
          have hcz19_2 : wc.cell? ⟨gb123, 2, none⟩ = some (.bool a0_2) := (blk_cell BK123.out 2).trans rfl
          have hfz19_0 := blk_frozen BK123.out 0
          have hfz19_1 := blk_frozen BK123.out 1
          have hfz19_2 := blk_frozen BK123.out 2
          have hcz20_0 : wc.cell? ⟨gb124, 0, none⟩ = some (.string (⟨#[]⟩ : ByteArray)) := (blk_cell BK124.out 0).trans rfl
          have hcz20_1 : wc.cell? ⟨gb124, 1, none⟩ = some (.string (⟨#[]⟩ : ByteArray)) := (blk_cell BK124.out 1).trans rfl
          have hcz20_2 : wc.cell? ⟨gb124, 2, none⟩ = some (.bool false) := (blk_cell BK124.out 2).trans rfl
          have hfz20_0 := blk_frozen BK124.out 0
          have hfz20_1 := blk_frozen BK124.out 1
          have hfz20_2 := blk_frozen BK124.out 2
          go_wp2
          refine bodyPost_ret (results_ct rfl _ _ gb124 31 #[.string a0_0, .string (⟨#[48]⟩ : ByteArray), .bool true] (0, 0) _ rfl (by (with_reducible repeat (first | refine blk_drewN ?_ _ | refine blk_drew ?_ | refine blk_alloc ?_ _)); refine blk_put (cs := #[.string a0_0, .string (⟨#[48]⟩ : ByteArray), .bool false]) ?_ 2 _ rfl; (with_reducible repeat (first | refine blk_drewN ?_ _ | refine blk_drew ?_ | refine blk_alloc ?_ _)); refine blk_put (cs := #[.string a0_0, .string (⟨#[]⟩ : ByteArray), .bool false]) ?_ 1 _ rfl; (with_reducible repeat (first | refine blk_drewN ?_ _ | refine blk_drew ?_ | refine blk_alloc ?_ _)); refine blk_put (cs := #[.string (⟨#[]⟩ : ByteArray), .string (⟨#[]⟩ : ByteArray), .bool false]) ?_ 0 _ rfl; (with_reducible repeat (first | refine blk_drewN ?_ _ | refine blk_drew ?_ | refine blk_alloc ?_ _)); exact BK124.out) Tryd.underlying31 rfl (by kernel_rfl)) rfl ?_
          exact ⟨by first | rfl | (simp [errW_none, errW_some] <;> rfl) | (simp [*, errW_none, errW_some] <;> rfl) | (simp [bne_nil_]; done), by repeat (first | (with_reducible first | exact HB.out | apply below_alloc | apply pw_below_drewN | apply below_drew1 | refine below_set ?_ GE123.out | refine below_set ?_ GE124.out) | exact HB.out)⟩
        · rw [if_neg c17] at H
          have c17b0 : (a0_0.toList == ([46] : List UInt8)) = false := beq_eq_false_iff_ne.mpr c17
          have c17b1 : (a0_0.toList != ([46] : List UInt8)) = true := bne_iff_ne.mpr c17
          simp only [Option.some.injEq, Prod.mk.injEq] at H
          obtain ⟨rfl, rfl, rfl, rfl⟩ := H
          have hnb21 := NB123_124.out
          have hnc21 := NB124_123.out
          have hcz22_0 : wc.cell? ⟨gb123, 0, none⟩ = some (.string a0_0) := (blk_cell BK123.out 0).trans rfl
          have hcz22_1 : wc.cell? ⟨gb123, 1, none⟩ = some (.string a0_1) := (blk_cell BK123.out 1).trans rfl
          have hcz22_2 : wc.cell? ⟨gb123, 2, none⟩ = some (.bool a0_2) := (blk_cell BK123.out 2).trans rfl
          have hfz22_0 := blk_frozen BK123.out 0
          have hfz22_1 := blk_frozen BK123.out 1
          have hfz22_2 := blk_frozen BK123.out 2
          have hcz23_0 : wc.cell? ⟨gb124, 0, none⟩ = some (.string (⟨#[]⟩ : ByteArray)) := (blk_cell BK124.out 0).trans rfl
          have hcz23_1 : wc.cell? ⟨gb124, 1, none⟩ = some (.string (⟨#[]⟩ : ByteArray)) := (blk_cell BK124.out 1).trans rfl
          have hcz23_2 : wc.cell? ⟨gb124, 2, none⟩ = some (.bool false) := (blk_cell BK124.out 2).trans rfl
          have hfz23_0 := blk_frozen BK124.out 0
          have hfz23_1 := blk_frozen BK124.out 1
          have hfz23_2 := blk_frozen BK124.out 2
          go_wp2
          refine bodyPost_ret (results_ct rfl _ _ gb124 31 #[.string (⟨#[]⟩ : ByteArray), .string (⟨#[]⟩ : ByteArray), .bool false] (0, 0) _ rfl (by (with_reducible repeat (first | refine blk_drewN ?_ _ | refine blk_drew ?_ | refine blk_alloc ?_ _)); refine blk_put (cs := #[.string (⟨#[]⟩ : ByteArray), .string (⟨#[]⟩ : ByteArray), .bool false]) ?_ 2 _ rfl; (with_reducible repeat (first | refine blk_drewN ?_ _ | refine blk_drew ?_ | refine blk_alloc ?_ _)); refine blk_put (cs := #[.string (⟨#[]⟩ : ByteArray), .string (⟨#[]⟩ : ByteArray), .bool false]) ?_ 1 _ rfl; (with_reducible repeat (first | refine blk_drewN ?_ _ | refine blk_drew ?_ | refine blk_alloc ?_ _)); refine blk_put (cs := #[.string (⟨#[]⟩ : ByteArray), .string (⟨#[]⟩ : ByteArray), .bool false]) ?_ 0 _ rfl; (with_reducible repeat (first | refine blk_drewN ?_ _ | refine blk_drew ?_ | refine blk_alloc ?_ _)); exact BK124.out) Tryd.underlying31 rfl (by kernel_rfl)) rfl ?_
          exact ⟨by first | rfl | (simp [errW_none, errW_some] <;> rfl) | (simp [*, errW_none, errW_some] <;> rfl) | (simp [bne_nil_]; done), by repeat (first | (with_reducible first | exact HB.out | apply below_alloc | apply pw_below_drewN | apply below_drew1 | refine below_set ?_ GE123.out | refine below_set ?_ GE124.out) | exact HB.out)⟩

end Go.Proofs.YtkecmlpihnjjgaaDoor.QL
