-- Written by a working copy of the kit's print program, turned at a few places by wip/tool/mkprint.py. Lean checks it.
import Derived.Test.YtdliagehkiihpaaGreatDoorQGx0
import Derived.Test.YtdliagehkiihpaaGreatDoorQGx1
namespace Go.Proofs.YtdliagehkiihpaaGreatDoor.QG
open Go.RowKit Go.Proofs.YtdliagehkiihpaaGreatDoorW.PrintWords Go.Proofs.YtdliagehkiihpaaGreatDoorW.PrintLast Go.Proofs.YtdliagehkiihpaaGreatDoorW.PrintMore
attribute [local go_sem] max2_int min2_int max_two min_two max_three min_three max_four min_four   -- for this text's walks alone
set_option linter.unusedVariables false
set_option linter.unusedSimpArgs false

/-! ### spec_orderInts: function 29 -/
def spec_orderInts.f (a0 : Int) (a1 : Int) : Option (Int) := if a0 < a1 then (some (-1)) else (if a0 > a1 then (some 1) else (some 0))
set_option maxHeartbeats 8000000 in
set_option maxRecDepth 100000 in
theorem spec_orderInts.calls (a0 : Int) (a1 : Int) (r : Int) (w : World) (h : spec_orderInts.f a0 a1 = some r) :
 Calls Tryz.prog 29 #[.int .i64 a0, .int .i64 a1] w fun e w' => e = .returned (.int .i64 r) ∧ Drawn0 w w' := by
 have H : (if a0 < a1 then (some (-1)) else (if a0 > a1 then (some 1) else (some 0))) = some r := h
 clear h
 by_cases c3 : a0 < a1
 · rw [if_pos c3] at H
   have c3b0 : decide (a0 < a1) = true := decide_eq_true c3
   clear c3
   obtain rfl := Option.some.inj H
   go_enter Tryz.func29, Tryz.ntmps29
   go_wp2
   go_ret
   exact ⟨by first | rfl | (simp; done) | (simp [*]; done) | (simp [bne_nil_]; done), by repeat (first | exact Drawn0.refl _ | apply Drawn0.step)⟩
 · rw [if_neg c3] at H
   have c3b0 : decide (a0 < a1) = false := decide_eq_false c3
   clear c3
   by_cases c4 : a0 > a1
   · rw [if_pos c4] at H
     have c4b0 : decide (a1 < a0) = true := decide_eq_true c4
     clear c4
     obtain rfl := Option.some.inj H
     go_enter Tryz.func29, Tryz.ntmps29
     go_wp2
     go_ret
     exact ⟨by first | rfl | (simp; done) | (simp [*]; done) | (simp [bne_nil_]; done), by repeat (first | exact Drawn0.refl _ | apply Drawn0.step)⟩
   · rw [if_neg c4] at H
     have c4b0 : decide (a1 < a0) = false := decide_eq_false c4
     clear c4
     obtain rfl := Option.some.inj H
     go_enter Tryz.func29, Tryz.ntmps29
     go_wp2
     go_ret
     exact ⟨by first | rfl | (simp; done) | (simp [*]; done) | (simp [bne_nil_]; done), by repeat (first | exact Drawn0.refl _ | apply Drawn0.step)⟩

-- GIVEN: function 54 (spec_order)

/-! ### spec_orderNumbers: function 28 -/
mutual
def spec_orderNumbers.j1 : Nat → ByteArray → ByteArray → Option (Int)
 | 0, _, _ => none
 | k + 1, x0, x1 => spec_orderNumbers.l1 k x0 x1
def spec_orderNumbers.j3 : Nat → ByteArray → ByteArray → Option (Int)
 | 0, _, _ => none
 | k + 1, x0, x1 => if (x0.size : Int) = (x1.size : Int) then ((Giv.spec_order.f x0 x1).bind fun t126 => (some t126)) else ((spec_orderInts.f (x0.size : Int) (x1.size : Int)).bind fun t127 => (some t127))
def spec_orderNumbers.l1 : Nat → ByteArray → ByteArray → Option (Int)
 | 0, _, _ => none
 | k + 1, x0, x1 => if (x1.size : Int) > 0 then (if 0 < (x1.size : Int) then (if (bt x1 0) = 48 then (if 1 ≤ (x1.size : Int) then (spec_orderNumbers.l1 k x0 (x1.extract 1 x1.size)) else (none)) else (spec_orderNumbers.j3 k x0 x1)) else (none)) else (spec_orderNumbers.j3 k x0 x1)
def spec_orderNumbers.l0 : Nat → ByteArray → ByteArray → Option (Int)
 | 0, _, _ => none
 | k + 1, x0, x1 => if (x0.size : Int) > 0 then (if 0 < (x0.size : Int) then (if (bt x0 0) = 48 then (if 1 ≤ (x0.size : Int) then (spec_orderNumbers.l0 k (x0.extract 1 x0.size) x1) else (none)) else (spec_orderNumbers.j1 k x0 x1)) else (none)) else (spec_orderNumbers.j1 k x0 x1)
end
def spec_orderNumbers.f (k : Nat) (a0 : ByteArray) (a1 : ByteArray) : Option (Int) := spec_orderNumbers.l0 k a0 a1
theorem spec_orderNumbers.mono_l : ∀ k, (∀ y0 y1, LeO (spec_orderNumbers.j1 k y0 y1) (spec_orderNumbers.j1 (k + 1) y0 y1)) ∧ (∀ y0 y1, LeO (spec_orderNumbers.j3 k y0 y1) (spec_orderNumbers.j3 (k + 1) y0 y1)) ∧ (∀ y0 y1, LeO (spec_orderNumbers.l1 k y0 y1) (spec_orderNumbers.l1 (k + 1) y0 y1)) ∧ (∀ y0 y1, LeO (spec_orderNumbers.l0 k y0 y1) (spec_orderNumbers.l0 (k + 1) y0 y1))
 | 0 => ⟨fun _ _ r h => by simp [spec_orderNumbers.j1] at h, fun _ _ r h => by simp [spec_orderNumbers.j3] at h, fun _ _ r h => by simp [spec_orderNumbers.l1] at h, fun _ _ r h => by simp [spec_orderNumbers.l0] at h⟩
 | k + 1 => by
  obtain ⟨ih0, ih1, ih2, ih3⟩ := spec_orderNumbers.mono_l k
  refine ⟨?_, ?_, ?_, ?_⟩
  · intro y0 y1
    unfold spec_orderNumbers.j1
    repeat' first
    | (with_reducible exact ih0 _ _)
    | (with_reducible exact ih1 _ _)
    | (with_reducible exact ih2 _ _)
    | (with_reducible exact ih3 _ _)
    | (with_reducible exact LeO.refl _)
    | (with_reducible exact LeO.none _)
    | (with_reducible refine LeO.ite ?_ ?_)
    | (with_reducible refine LeO.bind ?_ (fun _ => ?_))
    | exact ih0 _ _
    | exact ih1 _ _
    | exact ih2 _ _
    | exact ih3 _ _
    | exact LeO.none _
    | refine LeO.ite ?_ ?_
    | refine LeO.bind ?_ (fun _ => ?_)
  · intro y0 y1
    unfold spec_orderNumbers.j3
    repeat' first
    | (with_reducible exact ih0 _ _)
    | (with_reducible exact ih1 _ _)
    | (with_reducible exact ih2 _ _)
    | (with_reducible exact ih3 _ _)
    | (with_reducible exact LeO.refl _)
    | (with_reducible exact LeO.none _)
    | (with_reducible refine LeO.ite ?_ ?_)
    | (with_reducible refine LeO.bind ?_ (fun _ => ?_))
    | exact ih0 _ _
    | exact ih1 _ _
    | exact ih2 _ _
    | exact ih3 _ _
    | exact LeO.none _
    | refine LeO.ite ?_ ?_
    | refine LeO.bind ?_ (fun _ => ?_)
  · intro y0 y1
    unfold spec_orderNumbers.l1
    repeat' first
    | (with_reducible exact ih0 _ _)
    | (with_reducible exact ih1 _ _)
    | (with_reducible exact ih2 _ _)
    | (with_reducible exact ih3 _ _)
    | (with_reducible exact LeO.refl _)
    | (with_reducible exact LeO.none _)
    | (with_reducible refine LeO.ite ?_ ?_)
    | (with_reducible refine LeO.bind ?_ (fun _ => ?_))
    | exact ih0 _ _
    | exact ih1 _ _
    | exact ih2 _ _
    | exact ih3 _ _
    | exact LeO.none _
    | refine LeO.ite ?_ ?_
    | refine LeO.bind ?_ (fun _ => ?_)
  · intro y0 y1
    unfold spec_orderNumbers.l0
    repeat' first
    | (with_reducible exact ih0 _ _)
    | (with_reducible exact ih1 _ _)
    | (with_reducible exact ih2 _ _)
    | (with_reducible exact ih3 _ _)
    | (with_reducible exact LeO.refl _)
    | (with_reducible exact LeO.none _)
    | (with_reducible refine LeO.ite ?_ ?_)
    | (with_reducible refine LeO.bind ?_ (fun _ => ?_))
    | exact ih0 _ _
    | exact ih1 _ _
    | exact ih2 _ _
    | exact ih3 _ _
    | exact LeO.none _
    | refine LeO.ite ?_ ?_
    | refine LeO.bind ?_ (fun _ => ?_)
theorem spec_orderNumbers.mono : ∀ a0 a1 k, LeO (spec_orderNumbers.f k a0 a1) (spec_orderNumbers.f (k + 1) a0 a1) := by
 intro a0 a1 k
 obtain ⟨ih0, ih1, ih2, ih3⟩ := spec_orderNumbers.mono_l k
 unfold spec_orderNumbers.f
 repeat' first
  | (with_reducible exact ih0 _ _)
  | (with_reducible exact ih1 _ _)
  | (with_reducible exact ih2 _ _)
  | (with_reducible exact ih3 _ _)
  | (with_reducible exact LeO.refl _)
  | (with_reducible exact LeO.none _)
  | (with_reducible refine LeO.ite ?_ ?_)
  | (with_reducible refine LeO.bind ?_ (fun _ => ?_))
  | exact ih0 _ _
  | exact ih1 _ _
  | exact ih2 _ _
  | exact ih3 _ _
  | exact LeO.none _
  | refine LeO.ite ?_ ?_
  | refine LeO.bind ?_ (fun _ => ?_)
set_option maxHeartbeats 8000000 in
set_option maxRecDepth 100000 in
theorem spec_orderNumbers.calls (k : Nat) (a0 : ByteArray) (a1 : ByteArray) (r : Int) (w : World) (h : spec_orderNumbers.f k a0 a1 = some r) :
 Calls Tryz.prog 28 #[.string a0, .string a1] w fun e w' => e = .returned (.int .i64 r) ∧ Drawn0 w w' := by
 have H : (spec_orderNumbers.l0 k a0 a1) = some r := h
 clear h
 have HC3 := Aside0.mk H
 clear H
 go_enter Tryz.func28, Tryz.ntmps28
 go_upto_block 0 with (fail)
 go_cut [0] (fun v0 wc => ∃ (kq : Nat) (x0_2 : ByteArray), v0 = .string x0_2 ∧ Aside0 (spec_orderNumbers.j1 kq x0_2 a1 = some r) ∧ Aside0 (kq ≤ k) ∧ Drawn0 w wc)
 case first =>
  have H := HC3.out
  clear HC3
  have H' := Aside0.mk H
  clear H
  go_wp2
  go_loopg [0] k (fun kq v0 w' => ∃ (x0_1 : ByteArray), v0 = .string x0_1 ∧ Aside0 (spec_orderNumbers.l0 kq x0_1 a1 = some r) ∧ Aside0 (kq ≤ k) ∧ Drawn0 w w')
  case atStart => exact ⟨(a0), (by first | rfl | (simp; done) | (simp [*]; done) | (simp [bne_nil_]; done)), H', ⟨Nat.le_refl _⟩, by repeat (first | exact Drawn0.refl _ | apply Drawn0.step)⟩
  case round =>
   clear H'
   try clear c2
   try clear p2
   obtain ⟨x0_1, rfl, HA, HK1, ⟨m1, rfl⟩⟩ := hrel
   cases gk with
   | zero => exact absurd HA.out (by simp [spec_orderNumbers.l0])
   | succ k1 =>
    have H := HA.out
    clear HA
    simp only [spec_orderNumbers.l0] at H
    by_cases c4 : (x0_1.size : Int) > 0
    · rw [if_pos c4] at H
      have c4b0 : decide (0 < (x0_1.size : Int)) = true := decide_eq_true c4
      have c4b1 : decide (0 < x0_1.size) = true := decide_eq_true (by omega)
      clear c4
      (first | rw [c4b0] | (simp only [i64_w, i32_w]; rw [c4b0]) | skip)
      by_cases c5 : 0 < (x0_1.size : Int)
      · rw [if_pos c5] at H
        have c5b0 : decide (0 < (x0_1.size : Int)) = true := decide_eq_true c5
        have c5b1 : decide (0 < x0_1.size) = true := decide_eq_true (by omega)
        clear c5
        by_cases c7 : (bt x0_1 0) = 48
        · rw [if_pos c7] at H
          have c7b0 : ((bt x0_1 0) == 48) = true := beq_iff_eq.mpr c7
          have c7b1 : ((bt x0_1 0) != 48) = false := bne_eq_false_iff_eq.mpr c7
          clear c7
          by_cases c8 : 1 ≤ (x0_1.size : Int)
          · rw [if_pos c8] at H
            have c8b0 := eq_true c8
            have c8b1 : decide (1 ≤ (x0_1.size : Int)) = true := decide_eq_true c8
            clear c8
            have H' := Aside0.mk H
            clear H
            have p6 : 0 ≤ (0 : Int) := (by omega)
            have q6 : 0 < x0_1.size := (by have : (0 : Int) < (x0_1.size : Int) := of_decide_eq_true (by first | (with_reducible assumption) | assumption); omega)
            have hx6 : ∀ h : 0 < x0_1.size, ((x0_1[0]'h).toNat : Int) = bt x0_1 0 := bt_at x0_1 0
            clear p6
            have qi6 : (0 < (x0_1.size : Int)) = True := eq_true (of_decide_eq_true (by first | (with_reducible assumption) | assumption))
            replace q6 := eq_true q6
            go_wp2
            go_roundg k1
            case measure => have := HK1.out; omega
            case rel => exact ⟨(x0_1.extract 1 x0_1.size), (by first | rfl | (simp; done) | (simp [*]; done) | (simp [bne_nil_]; done)), H', ⟨by have := HK1.out; omega⟩, by repeat (first | exact Drawn0.refl _ | apply Drawn0.step)⟩
          · rw [if_neg c8] at H
            exact absurd H (by simp)
        · rw [if_neg c7] at H
          have c7b0 : ((bt x0_1 0) == 48) = false := beq_eq_false_iff_ne.mpr c7
          have c7b1 : ((bt x0_1 0) != 48) = true := bne_iff_ne.mpr c7
          have H' := Aside0.mk H
          clear H
          have p6 : 0 ≤ (0 : Int) := (by omega)
          have q6 : 0 < x0_1.size := (by have : (0 : Int) < (x0_1.size : Int) := of_decide_eq_true (by first | (with_reducible assumption) | assumption); omega)
          have hx6 : ∀ h : 0 < x0_1.size, ((x0_1[0]'h).toNat : Int) = bt x0_1 0 := bt_at x0_1 0
          clear p6
          have qi6 : (0 < (x0_1.size : Int)) = True := eq_true (of_decide_eq_true (by first | (with_reducible assumption) | assumption))
          replace q6 := eq_true q6
          go_wp2
          go_meet
          case rel => exact ⟨_, (x0_1), (by first | rfl | (simp; done) | (simp [*]; done) | (simp [bne_nil_]; done)), H', ⟨by have := HK1.out; first | omega | exact Nat.le_refl _⟩, by repeat (first | exact Drawn0.refl _ | apply Drawn0.step)⟩
      · rw [if_neg c5] at H
        exact absurd H (by simp)
    · rw [if_neg c4] at H
      have c4b0 : decide (0 < (x0_1.size : Int)) = false := decide_eq_false c4
      have c4b1 : decide (0 < x0_1.size) = false := decide_eq_false (by omega)
      clear c4
      (first | rw [c4b0] | (simp only [i64_w, i32_w]; rw [c4b0]) | skip)
      have H' := Aside0.mk H
      clear H
      go_wp2
      go_meet
      case rel => exact ⟨_, (x0_1), (by first | rfl | (simp; done) | (simp [*]; done) | (simp [bne_nil_]; done)), H', ⟨by have := HK1.out; first | omega | exact Nat.le_refl _⟩, by repeat (first | exact Drawn0.refl _ | apply Drawn0.step)⟩
 case rest =>
  clear HC3
  try clear c2
  try clear p2
  try clear c4
  try clear c4b0
  try clear c4b1
  try clear c5
  try clear c5b0
  try clear c5b1
  try clear p6
  try clear q6
  try clear hx6
  try clear qi6
  try clear c7
  try clear c7b0
  try clear c7b1
  try clear c8
  try clear c8b0
  try clear c8b1
  try clear p2
  try clear p6
  try clear q6
  obtain ⟨kq, x0_2, rfl, HA, HJ2, ⟨mc2, rfl⟩⟩ := hcut
  cases kq with
  | zero => exact absurd HA.out (by simp [spec_orderNumbers.j1])
  | succ kj2 =>
   have H := HA.out
   clear HA
   simp only [spec_orderNumbers.j1] at H
   have HC9 := Aside0.mk H
   clear H
   go_upto_block 2 with (fail)
   go_cut [1] (fun v1 wc => ∃ (kq : Nat) (x1_8 : ByteArray), v1 = .string x1_8 ∧ Aside0 (spec_orderNumbers.j3 kq x0_2 x1_8 = some r) ∧ Aside0 (kq ≤ kj2) ∧ Drawn0 w wc)
   case first =>
    have H := HC9.out
    clear HC9
    have H' := Aside0.mk H
    clear H
    go_wp2
    go_loopg [1] kj2 (fun kq v1 w' => ∃ (x1_2 : ByteArray), v1 = .string x1_2 ∧ Aside0 (spec_orderNumbers.l1 kq x0_2 x1_2 = some r) ∧ Aside0 (kq ≤ kj2) ∧ Drawn0 w w')
    case atStart => exact ⟨(a1), (by first | rfl | (simp; done) | (simp [*]; done) | (simp [bne_nil_]; done)), H', ⟨Nat.le_refl _⟩, by repeat (first | exact Drawn0.refl _ | apply Drawn0.step)⟩
    case round =>
     clear H'
     try clear c2
     try clear p2
     try clear c4
     try clear c4b0
     try clear c4b1
     try clear c5
     try clear c5b0
     try clear c5b1
     try clear p6
     try clear q6
     try clear hx6
     try clear qi6
     try clear c7
     try clear c7b0
     try clear c7b1
     try clear c8
     try clear c8b0
     try clear c8b1
     try clear p2
     try clear p6
     try clear q6
     obtain ⟨x1_2, rfl, HA, HK2, ⟨m2, rfl⟩⟩ := hrel
     cases gk with
     | zero => exact absurd HA.out (by simp [spec_orderNumbers.l1])
     | succ k2 =>
      have H := HA.out
      clear HA
      simp only [spec_orderNumbers.l1] at H
      by_cases c10 : (x1_2.size : Int) > 0
      · rw [if_pos c10] at H
        have c10b0 : decide (0 < (x1_2.size : Int)) = true := decide_eq_true c10
        have c10b1 : decide (0 < x1_2.size) = true := decide_eq_true (by omega)
        clear c10
        (first | rw [c10b0] | (simp only [i64_w, i32_w]; rw [c10b0]) | skip)
        by_cases c11 : 0 < (x1_2.size : Int)
        · rw [if_pos c11] at H
          have c11b0 : decide (0 < (x1_2.size : Int)) = true := decide_eq_true c11
          have c11b1 : decide (0 < x1_2.size) = true := decide_eq_true (by omega)
          clear c11
          by_cases c13 : (bt x1_2 0) = 48
          · rw [if_pos c13] at H
            have c13b0 : ((bt x1_2 0) == 48) = true := beq_iff_eq.mpr c13
            have c13b1 : ((bt x1_2 0) != 48) = false := bne_eq_false_iff_eq.mpr c13
            clear c13
            by_cases c14 : 1 ≤ (x1_2.size : Int)
            · rw [if_pos c14] at H
              have c14b0 := eq_true c14
              have c14b1 : decide (1 ≤ (x1_2.size : Int)) = true := decide_eq_true c14
              clear c14
              have H' := Aside0.mk H
              clear H
              have p12 : 0 ≤ (0 : Int) := (by omega)
              have q12 : 0 < x1_2.size := (by have : (0 : Int) < (x1_2.size : Int) := of_decide_eq_true (by first | (with_reducible assumption) | assumption); omega)
              have hx12 : ∀ h : 0 < x1_2.size, ((x1_2[0]'h).toNat : Int) = bt x1_2 0 := bt_at x1_2 0
              clear p12
              have qi12 : (0 < (x1_2.size : Int)) = True := eq_true (of_decide_eq_true (by first | (with_reducible assumption) | assumption))
              replace q12 := eq_true q12
              go_wp2
              go_roundg k2
              case measure => have := HJ2.out; have := HK2.out; omega
              case rel => exact ⟨(x1_2.extract 1 x1_2.size), (by first | rfl | (simp; done) | (simp [*]; done) | (simp [bne_nil_]; done)), H', ⟨by have := HJ2.out; have := HK2.out; omega⟩, by repeat (first | exact Drawn0.refl _ | apply Drawn0.step)⟩
            · rw [if_neg c14] at H
              exact absurd H (by simp)
          · rw [if_neg c13] at H
            have c13b0 : ((bt x1_2 0) == 48) = false := beq_eq_false_iff_ne.mpr c13
            have c13b1 : ((bt x1_2 0) != 48) = true := bne_iff_ne.mpr c13
            have H' := Aside0.mk H
            clear H
            have p12 : 0 ≤ (0 : Int) := (by omega)
            have q12 : 0 < x1_2.size := (by have : (0 : Int) < (x1_2.size : Int) := of_decide_eq_true (by first | (with_reducible assumption) | assumption); omega)
            have hx12 : ∀ h : 0 < x1_2.size, ((x1_2[0]'h).toNat : Int) = bt x1_2 0 := bt_at x1_2 0
            clear p12
            have qi12 : (0 < (x1_2.size : Int)) = True := eq_true (of_decide_eq_true (by first | (with_reducible assumption) | assumption))
            replace q12 := eq_true q12
            go_wp2
            go_meet
            case rel => exact ⟨_, (x1_2), (by first | rfl | (simp; done) | (simp [*]; done) | (simp [bne_nil_]; done)), H', ⟨by have := HJ2.out; have := HK2.out; first | omega | exact Nat.le_refl _⟩, by repeat (first | exact Drawn0.refl _ | apply Drawn0.step)⟩
        · rw [if_neg c11] at H
          exact absurd H (by simp)
      · rw [if_neg c10] at H
        have c10b0 : decide (0 < (x1_2.size : Int)) = false := decide_eq_false c10
        have c10b1 : decide (0 < x1_2.size) = false := decide_eq_false (by omega)
        clear c10
        (first | rw [c10b0] | (simp only [i64_w, i32_w]; rw [c10b0]) | skip)
        have H' := Aside0.mk H
        clear H
        go_wp2
        go_meet
        case rel => exact ⟨_, (x1_2), (by first | rfl | (simp; done) | (simp [*]; done) | (simp [bne_nil_]; done)), H', ⟨by have := HJ2.out; have := HK2.out; first | omega | exact Nat.le_refl _⟩, by repeat (first | exact Drawn0.refl _ | apply Drawn0.step)⟩
   case rest =>
    clear HC9
    try clear c1
    try clear p1
    try clear q1
    try clear hx1
    try clear qi1
    try clear c2
    try clear p2
    try clear c4
    try clear c4b0
    try clear c4b1
    try clear c5
    try clear c5b0
    try clear c5b1
    try clear p6
    try clear q6
    try clear hx6
    try clear qi6
    try clear c7
    try clear c7b0
    try clear c7b1
    try clear c8
    try clear c8b0
    try clear c8b1
    try clear c10
    try clear c10b0
    try clear c10b1
    try clear c11
    try clear c11b0
    try clear c11b1
    try clear p12
    try clear q12
    try clear hx12
    try clear qi12
    try clear c13
    try clear c13b0
    try clear c13b1
    try clear c14
    try clear c14b0
    try clear c14b1
    try clear p12
    try clear p2
    try clear p6
    try clear q12
    try clear q6
    obtain ⟨kq, x1_8, rfl, HA, HJ8, ⟨mc8, rfl⟩⟩ := hcut
    cases kq with
    | zero => exact absurd HA.out (by simp [spec_orderNumbers.j3])
    | succ kj8 =>
     have H := HA.out
     clear HA
     simp only [spec_orderNumbers.j3] at H
     by_cases c15 : (x0_2.size : Int) = (x1_8.size : Int)
     · rw [if_pos c15] at H
       have c15b0 : ((x0_2.size : Int) == (x1_8.size : Int)) = true := beq_iff_eq.mpr c15
       have c15b1 : ((x0_2.size : Int) != (x1_8.size : Int)) = false := bne_eq_false_iff_eq.mpr c15
       have c15b2 : (x0_2.size == x1_8.size) = true := by first | simpa using c15 | (simp at c15 ⊢; omega)
       clear c15
       replace H := Option.bind_eq_some_iff.mp H
       obtain ⟨t126, A160, H⟩ := H
       replace H : (some t126) = some r := H
       have A16 := Aside0.mk A160
       clear A160
       obtain rfl := Option.some.inj H
       go_wp2_with (first | ((with_reducible refine gate_callee (f := 54) rfl ?_); refine goesL_ (some 37) rfl rfl Tryz.func54 (by kernel_rfl) rfl #[.string x0_2, .string x1_8] rfl (by (try simp only [List.map_toArray, List.map_cons, List.map_nil]); first | done | rfl | (simp only [List.length_drop, List.length_take]; rfl)) ?_; (with_reducible refine (Giv.spec_order.calls x0_2 x1_8 t126 _ A16.out).mono ?_); rintro e w' ⟨rfl, ⟨nd, rfl⟩⟩; refine ⟨_, rfl, ?_⟩))
       go_ret
       exact ⟨by first | rfl | (simp; done) | (simp [*]; done) | (simp [bne_nil_]; done), by repeat (first | exact Drawn0.refl _ | apply Drawn0.step)⟩
     · rw [if_neg c15] at H
       have c15b0 : ((x0_2.size : Int) == (x1_8.size : Int)) = false := beq_eq_false_iff_ne.mpr c15
       have c15b1 : ((x0_2.size : Int) != (x1_8.size : Int)) = true := bne_iff_ne.mpr c15
       have c15b2 : (x0_2.size == x1_8.size) = false := by first | simpa using c15 | (simp at c15 ⊢; omega)
       replace H := Option.bind_eq_some_iff.mp H
       obtain ⟨t127, A170, H⟩ := H
       replace H : (some t127) = some r := H
       have A17 := Aside0.mk A170
       clear A170
       obtain rfl := Option.some.inj H
       go_wp2_with (first | ((with_reducible refine gate_callee (f := 29) rfl ?_); refine goesL_ (some 34) rfl rfl Tryz.func29 (by kernel_rfl) rfl #[.int .i64 (x0_2.size : Int), .int .i64 (x1_8.size : Int)] rfl (by (try simp only [List.map_toArray, List.map_cons, List.map_nil]); first | done | rfl | (simp only [List.length_drop, List.length_take]; rfl)) ?_; (with_reducible refine (spec_orderInts.calls (x0_2.size : Int) (x1_8.size : Int) t127 _ A17.out).mono ?_); rintro e w' ⟨rfl, ⟨nd, rfl⟩⟩; refine ⟨_, rfl, ?_⟩))
       go_ret
       exact ⟨by first | rfl | (simp; done) | (simp [*]; done) | (simp [bne_nil_]; done), by repeat (first | exact Drawn0.refl _ | apply Drawn0.step)⟩

/-! ### spec_pageOne: function 30 -/
def spec_pageOne.j0 : Nat → ByteArray → ByteArray → Bool → Bool → Bool → Option (Int)
 | 0, _, _, _, _, _ => none
 | k + 1, x0, x1, x5, x6, x11 => if x11 = true then ((spec_orderNumbers.f k x0 x1).bind fun t130 => (some t130)) else (if x5 = true then (some (-1)) else (if x6 = true then (some 1) else ((Giv.spec_order.f x0 x1).bind fun t131 => (some t131))))
def spec_pageOne.f (k : Nat) (a0 : ByteArray) (a1 : ByteArray) : Option (Int) := (spec_allDigits.f k a0).bind fun t128 => ((spec_allDigits.f k a1).bind fun t129 => (if t128 = true then (spec_pageOne.j0 k a0 a1 t128 t129 t129) else (spec_pageOne.j0 k a0 a1 t128 t129 false)))
theorem spec_pageOne.mono_l : ∀ k, (∀ y0 y1 y2 y3 y4, LeO (spec_pageOne.j0 k y0 y1 y2 y3 y4) (spec_pageOne.j0 (k + 1) y0 y1 y2 y3 y4))
 | 0 => fun _ _ _ _ _ r h => by simp [spec_pageOne.j0] at h
 | k + 1 => by
  have ih0 := spec_pageOne.mono_l k
  · intro y0 y1 y2 y3 y4
    unfold spec_pageOne.j0
    repeat' first
    | (with_reducible exact ih0 _ _ _ _ _)
    | (with_reducible exact spec_allDigits.mono _ _)
    | (with_reducible exact spec_orderNumbers.mono _ _ _)
    | (with_reducible exact LeO.refl _)
    | (with_reducible exact LeO.none _)
    | (with_reducible refine LeO.ite ?_ ?_)
    | (with_reducible refine LeO.bind ?_ (fun _ => ?_))
    | exact ih0 _ _ _ _ _
    | exact spec_allDigits.mono _ _
    | exact spec_orderNumbers.mono _ _ _
    | exact LeO.none _
    | refine LeO.ite ?_ ?_
    | refine LeO.bind ?_ (fun _ => ?_)
theorem spec_pageOne.mono : ∀ a0 a1 k, LeO (spec_pageOne.f k a0 a1) (spec_pageOne.f (k + 1) a0 a1) := by
 intro a0 a1 k
 have ih0 := spec_pageOne.mono_l k
 unfold spec_pageOne.f
 repeat' first
  | (with_reducible exact ih0 _ _ _ _ _)
  | (with_reducible exact spec_allDigits.mono _ _)
  | (with_reducible exact spec_orderNumbers.mono _ _ _)
  | (with_reducible exact LeO.refl _)
  | (with_reducible exact LeO.none _)
  | (with_reducible refine LeO.ite ?_ ?_)
  | (with_reducible refine LeO.bind ?_ (fun _ => ?_))
  | exact ih0 _ _ _ _ _
  | exact spec_allDigits.mono _ _
  | exact spec_orderNumbers.mono _ _ _
  | exact LeO.none _
  | refine LeO.ite ?_ ?_
  | refine LeO.bind ?_ (fun _ => ?_)
set_option maxHeartbeats 8000000 in
set_option maxRecDepth 100000 in
theorem spec_pageOne.calls (k : Nat) (a0 : ByteArray) (a1 : ByteArray) (r : Int) (w : World) (h : spec_pageOne.f k a0 a1 = some r) :
 Calls Tryz.prog 30 #[.string a0, .string a1] w fun e w' => e = .returned (.int .i64 r) ∧ Drawn0 w w' := by
 have H : ((spec_allDigits.f k a0).bind fun t128 => ((spec_allDigits.f k a1).bind fun t129 => (if t128 = true then (spec_pageOne.j0 k a0 a1 t128 t129 t129) else (spec_pageOne.j0 k a0 a1 t128 t129 false)))) = some r := h
 clear h
 replace H := Option.bind_eq_some_iff.mp H
 obtain ⟨t128, A30, H⟩ := H
 replace H : ((spec_allDigits.f k a1).bind fun t129 => (if t128 = true then (spec_pageOne.j0 k a0 a1 t128 t129 t129) else (spec_pageOne.j0 k a0 a1 t128 t129 false))) = some r := H
 have A3 := Aside0.mk A30
 clear A30
 replace H := Option.bind_eq_some_iff.mp H
 obtain ⟨t129, A40, H⟩ := H
 replace H : (if t128 = true then (spec_pageOne.j0 k a0 a1 t128 t129 t129) else (spec_pageOne.j0 k a0 a1 t128 t129 false)) = some r := H
 have A4 := Aside0.mk A40
 clear A40
 have HC5 := Aside0.mk H
 clear H
 go_enter Tryz.func30, Tryz.ntmps30
 go_upto_region 2 with (first | ((with_reducible refine gate_callee (f := 53) rfl ?_); refine goesL_ (some 8) rfl rfl Tryz.func53 (by kernel_rfl) rfl #[.string a0] rfl (by (try simp only [List.map_toArray, List.map_cons, List.map_nil]); first | done | rfl | (simp only [List.length_drop, List.length_take]; rfl)) ?_; (with_reducible refine (spec_allDigits.calls k a0 t128 _ A3.out).mono ?_); rintro e w' ⟨rfl, ⟨nd, rfl⟩⟩; refine ⟨_, rfl, ?_⟩) | ((with_reducible refine gate_callee (f := 53) rfl ?_); refine goesL_ (some 10) rfl rfl Tryz.func53 (by kernel_rfl) rfl #[.string a1] rfl (by (try simp only [List.map_toArray, List.map_cons, List.map_nil]); first | done | rfl | (simp only [List.length_drop, List.length_take]; rfl)) ?_; (with_reducible refine (spec_allDigits.calls k a1 t129 _ A4.out).mono ?_); rintro e w' ⟨rfl, ⟨nd, rfl⟩⟩; refine ⟨_, rfl, ?_⟩))
 (try simp only [Act.put, List.setIfInBounds_toArray, List.set_cons_zero, List.set_cons_succ])
 go_cut [11] (fun v11 wc => ∃ (kq : Nat) (x11_4 : Bool), v11 = .bool x11_4 ∧ Aside0 (spec_pageOne.j0 kq a0 a1 t128 t129 x11_4 = some r) ∧ Aside0 (kq ≤ k) ∧ Drawn0 w wc)
 case first =>
  have H := HC5.out
  clear HC5
  by_cases c6 : t128 = true
  · subst c6
    have H1 : (spec_pageOne.j0 k a0 a1 true t129 t129) = some r := by rw [if_pos rfl] at H; exact H
    clear H
    have H := H1
    clear H1
    have H' := Aside0.mk H
    clear H
    go_wp2
    go_meet
    case rel => exact ⟨_, (t129), (by first | rfl | (simp; done) | (simp [*]; done) | (simp [bne_nil_]; done)), H', ⟨by first | omega | exact Nat.le_refl _⟩, by repeat (first | exact Drawn0.refl _ | apply Drawn0.step)⟩
  · replace c6 := Bool.eq_false_iff.mpr c6
    subst c6
    have H1 : (spec_pageOne.j0 k a0 a1 false t129 false) = some r := by rw [if_neg (show ¬ (false = true) by decide)] at H; exact H
    clear H
    have H := H1
    clear H1
    have H' := Aside0.mk H
    clear H
    go_wp2
    go_meet
    case rel => exact ⟨_, (false), (by first | rfl | (simp; done) | (simp [*]; done) | (simp [bne_nil_]; done)), H', ⟨by first | omega | exact Nat.le_refl _⟩, by repeat (first | exact Drawn0.refl _ | apply Drawn0.step)⟩
 case rest =>
  clear HC5
  try clear p2
  try clear c3
  try clear c5
  try clear c6
  obtain ⟨kq, x11_4, rfl, HA, HJ4, ⟨mc4, rfl⟩⟩ := hcut
  cases kq with
  | zero => exact absurd HA.out (by simp [spec_pageOne.j0])
  | succ kj4 =>
   have H := HA.out
   clear HA
   simp only [spec_pageOne.j0] at H
   by_cases c7 : x11_4 = true
   · subst c7
     have H1 : ((spec_orderNumbers.f kj4 a0 a1).bind fun t130 => (some t130)) = some r := by rw [if_pos rfl] at H; exact H
     clear H
     have H := H1
     clear H1
     replace H := Option.bind_eq_some_iff.mp H
     obtain ⟨t130, A80, H⟩ := H
     replace H : (some t130) = some r := H
     have A8 := Aside0.mk A80
     clear A80
     obtain rfl := Option.some.inj H
     go_wp2_with (first | ((with_reducible refine gate_callee (f := 28) rfl ?_); refine goesL_ (some 18) rfl rfl Tryz.func28 (by kernel_rfl) rfl #[.string a0, .string a1] rfl (by (try simp only [List.map_toArray, List.map_cons, List.map_nil]); first | done | rfl | (simp only [List.length_drop, List.length_take]; rfl)) ?_; (with_reducible refine (spec_orderNumbers.calls kj4 a0 a1 t130 _ A8.out).mono ?_); rintro e w' ⟨rfl, ⟨nd, rfl⟩⟩; refine ⟨_, rfl, ?_⟩))
     go_ret
     exact ⟨by first | rfl | (simp; done) | (simp [*]; done) | (simp [bne_nil_]; done), by repeat (first | exact Drawn0.refl _ | apply Drawn0.step)⟩
   · replace c7 := Bool.eq_false_iff.mpr c7
     subst c7
     have H1 : (if t128 = true then (some (-1)) else (if t129 = true then (some 1) else ((Giv.spec_order.f a0 a1).bind fun t131 => (some t131)))) = some r := by rw [if_neg (show ¬ (false = true) by decide)] at H; exact H
     clear H
     have H := H1
     clear H1
     by_cases c9 : t128 = true
     · subst c9
       have H1 : (some (-1)) = some r := by rw [if_pos rfl] at H; exact H
       clear H
       have H := H1
       clear H1
       obtain rfl := Option.some.inj H
       go_wp2
       go_ret
       exact ⟨by first | rfl | (simp; done) | (simp [*]; done) | (simp [bne_nil_]; done), by repeat (first | exact Drawn0.refl _ | apply Drawn0.step)⟩
     · replace c9 := Bool.eq_false_iff.mpr c9
       subst c9
       have H1 : (if t129 = true then (some 1) else ((Giv.spec_order.f a0 a1).bind fun t131 => (some t131))) = some r := by rw [if_neg (show ¬ (false = true) by decide)] at H; exact H
       clear H
       have H := H1
       clear H1
       by_cases c10 : t129 = true
       · subst c10
         have H1 : (some 1) = some r := by rw [if_pos rfl] at H; exact H
         clear H
         have H := H1
         clear H1
         obtain rfl := Option.some.inj H
         go_wp2
         go_ret
         exact ⟨by first | rfl | (simp; done) | (simp [*]; done) | (simp [bne_nil_]; done), by repeat (first | exact Drawn0.refl _ | apply Drawn0.step)⟩
       · replace c10 := Bool.eq_false_iff.mpr c10
         subst c10
         have H1 : ((Giv.spec_order.f a0 a1).bind fun t131 => (some t131)) = some r := by rw [if_neg (show ¬ (false = true) by decide)] at H; exact H
         clear H
         have H := H1
         clear H1
         replace H := Option.bind_eq_some_iff.mp H
         obtain ⟨t131, A110, H⟩ := H
         replace H : (some t131) = some r := H
         have A11 := Aside0.mk A110
         clear A110
         obtain rfl := Option.some.inj H
         go_wp2_with (first | ((with_reducible refine gate_callee (f := 54) rfl ?_); refine goesL_ (some 25) rfl rfl Tryz.func54 (by kernel_rfl) rfl #[.string a0, .string a1] rfl (by (try simp only [List.map_toArray, List.map_cons, List.map_nil]); first | done | rfl | (simp only [List.length_drop, List.length_take]; rfl)) ?_; (with_reducible refine (Giv.spec_order.calls a0 a1 t131 _ A11.out).mono ?_); rintro e w' ⟨rfl, ⟨nd, rfl⟩⟩; refine ⟨_, rfl, ?_⟩))
         go_ret
         exact ⟨by first | rfl | (simp; done) | (simp [*]; done) | (simp [bne_nil_]; done), by repeat (first | exact Drawn0.refl _ | apply Drawn0.step)⟩

/-! ### spec_Precedence: function 13 -/
mutual
def spec_Precedence.j0 : Nat → ByteArray → ByteArray → Int → Int → Option (Int × Bool)
 | 0, _, _, _, _ => none
 | k + 1, x0, x1, x2, x3 => (spec_CoreOf.f k x0 x2 x3).bind fun bt134 => ((spec_CoreOf.f k x1 x2 x3).bind fun bt142 => (if bt134.2.2.2 = true then (spec_Precedence.j1 k x3 bt134.1 bt134.2.1 bt142.1 bt142.2.1 (!bt142.2.2.2)) else (spec_Precedence.j1 k x3 bt134.1 bt134.2.1 bt142.1 bt142.2.1 true)))
def spec_Precedence.j1 : Nat → Int → List ByteArray → List ByteArray → List ByteArray → List ByteArray → Bool → Option (Int × Bool)
 | 0, _, _, _, _, _, _ => none
 | k + 1, x3, x12, x13, x16, x17, x54 => if x54 = true then (some (0, false)) else (spec_Precedence.l0 k x3 x12 x13 x16 x17 0)
def spec_Precedence.l0 : Nat → Int → List ByteArray → List ByteArray → List ByteArray → List ByteArray → Int → Option (Int × Bool)
 | 0, _, _, _, _, _, _ => none
 | k + 1, x3, x12, x13, x16, x17, x20 => if x20 < x3 then (if x20 < (x12.length : Int) then (if 0 ≤ x20 then (spec_Precedence.j3 k x3 x12 x13 x16 x17 x20 (rdOf ByteArray.empty x12 x20) (⟨#[48]⟩ : ByteArray)) else (none)) else (spec_Precedence.j3 k x3 x12 x13 x16 x17 x20 (⟨#[48]⟩ : ByteArray) (⟨#[48]⟩ : ByteArray))) else (if (x13.length : Int) = 0 then (spec_Precedence.j4 k x13 x17 true) else (spec_Precedence.j4 k x13 x17 ((x17.length : Int) == 0)))
def spec_Precedence.j3 : Nat → Int → List ByteArray → List ByteArray → List ByteArray → List ByteArray → Int → ByteArray → ByteArray → Option (Int × Bool)
 | 0, _, _, _, _, _, _, _, _ => none
 | k + 1, x3, x12, x13, x16, x17, x20, x21, x22 => if x20 < (x16.length : Int) then (if 0 ≤ x20 then ((spec_orderNumbers.f k x21 (rdOf ByteArray.empty x16 x20)).bind fun t152 => (if t152 = 0 then (spec_Precedence.l0 k x3 x12 x13 x16 x17 (wrap64 (x20 + 1))) else (some (t152, true)))) else (none)) else ((spec_orderNumbers.f k x21 x22).bind fun t153 => (if t153 = 0 then (spec_Precedence.l0 k x3 x12 x13 x16 x17 (wrap64 (x20 + 1))) else (some (t153, true))))
def spec_Precedence.j4 : Nat → List ByteArray → List ByteArray → Bool → Option (Int × Bool)
 | 0, _, _, _ => none
 | k + 1, x13, x17, x89 => if x89 = true then ((spec_orderInts.f (mn (x17.length : Int) 1) (mn (x13.length : Int) 1)).bind fun t154 => (some (t154, true))) else (spec_Precedence.l1 k x13 x17 0)
def spec_Precedence.l1 : Nat → List ByteArray → List ByteArray → Int → Option (Int × Bool)
 | 0, _, _, _ => none
 | k + 1, x13, x17, x24 => if x24 < (x13.length : Int) then (spec_Precedence.j6 k x13 x17 x24 (decide (x24 < (x17.length : Int)))) else (spec_Precedence.j6 k x13 x17 x24 false)
def spec_Precedence.j6 : Nat → List ByteArray → List ByteArray → Int → Bool → Option (Int × Bool)
 | 0, _, _, _, _ => none
 | k + 1, x13, x17, x24, x106 => if x106 = true then (if 0 ≤ x24 then (if x24 < (x13.length : Int) then (if x24 < (x17.length : Int) then ((spec_pageOne.f k (rdOf ByteArray.empty x13 x24) (rdOf ByteArray.empty x17 x24)).bind fun t157 => (if t157 = 0 then (spec_Precedence.l1 k x13 x17 (wrap64 (x24 + 1))) else (some (t157, true)))) else (none)) else (none)) else (none)) else ((spec_orderInts.f (x13.length : Int) (x17.length : Int)).bind fun t158 => (some (t158, true)))
end
def spec_Precedence.f (k : Nat) (a0 : ByteArray) (a1 : ByteArray) (a2 : Int) (a3 : Int) (a4 : Bool) : Option (Int × Bool) := if a4 = true then ((Giv.spec_lower.f a0).bind fun t132 => ((Giv.spec_lower.f a1).bind fun t133 => (spec_Precedence.j0 k t132 t133 a2 a3))) else (spec_Precedence.j0 k a0 a1 a2 a3)
theorem spec_Precedence.mono_l : ∀ k, (∀ y0 y1 y2 y3, LeO (spec_Precedence.j0 k y0 y1 y2 y3) (spec_Precedence.j0 (k + 1) y0 y1 y2 y3)) ∧ (∀ y0 y1 y2 y3 y4 y5, LeO (spec_Precedence.j1 k y0 y1 y2 y3 y4 y5) (spec_Precedence.j1 (k + 1) y0 y1 y2 y3 y4 y5)) ∧ (∀ y0 y1 y2 y3 y4 y5, LeO (spec_Precedence.l0 k y0 y1 y2 y3 y4 y5) (spec_Precedence.l0 (k + 1) y0 y1 y2 y3 y4 y5)) ∧ (∀ y0 y1 y2 y3 y4 y5 y6 y7, LeO (spec_Precedence.j3 k y0 y1 y2 y3 y4 y5 y6 y7) (spec_Precedence.j3 (k + 1) y0 y1 y2 y3 y4 y5 y6 y7)) ∧ (∀ y0 y1 y2, LeO (spec_Precedence.j4 k y0 y1 y2) (spec_Precedence.j4 (k + 1) y0 y1 y2)) ∧ (∀ y0 y1 y2, LeO (spec_Precedence.l1 k y0 y1 y2) (spec_Precedence.l1 (k + 1) y0 y1 y2)) ∧ (∀ y0 y1 y2 y3, LeO (spec_Precedence.j6 k y0 y1 y2 y3) (spec_Precedence.j6 (k + 1) y0 y1 y2 y3))
 | 0 => ⟨fun _ _ _ _ r h => by simp [spec_Precedence.j0] at h, fun _ _ _ _ _ _ r h => by simp [spec_Precedence.j1] at h, fun _ _ _ _ _ _ r h => by simp [spec_Precedence.l0] at h, fun _ _ _ _ _ _ _ _ r h => by simp [spec_Precedence.j3] at h, fun _ _ _ r h => by simp [spec_Precedence.j4] at h, fun _ _ _ r h => by simp [spec_Precedence.l1] at h, fun _ _ _ _ r h => by simp [spec_Precedence.j6] at h⟩
 | k + 1 => by
  obtain ⟨ih0, ih1, ih2, ih3, ih4, ih5, ih6⟩ := spec_Precedence.mono_l k
  refine ⟨?_, ?_, ?_, ?_, ?_, ?_, ?_⟩
  · intro y0 y1 y2 y3
    unfold spec_Precedence.j0
    repeat' first
    | (with_reducible exact ih0 _ _ _ _)
    | (with_reducible exact ih1 _ _ _ _ _ _)
    | (with_reducible exact ih2 _ _ _ _ _ _)
    | (with_reducible exact ih3 _ _ _ _ _ _ _ _)
    | (with_reducible exact ih4 _ _ _)
    | (with_reducible exact ih5 _ _ _)
    | (with_reducible exact ih6 _ _ _ _)
    | (with_reducible exact spec_CoreOf.mono _ _ _ _)
    | (with_reducible exact spec_orderNumbers.mono _ _ _)
    | (with_reducible exact spec_pageOne.mono _ _ _)
    | (with_reducible exact LeO.refl _)
    | (with_reducible exact LeO.none _)
    | (with_reducible refine LeO.ite ?_ ?_)
    | (with_reducible refine LeO.bind ?_ (fun _ => ?_))
    | exact ih0 _ _ _ _
    | exact ih1 _ _ _ _ _ _
    | exact ih2 _ _ _ _ _ _
    | exact ih3 _ _ _ _ _ _ _ _
    | exact ih4 _ _ _
    | exact ih5 _ _ _
    | exact ih6 _ _ _ _
    | exact spec_CoreOf.mono _ _ _ _
    | exact spec_orderNumbers.mono _ _ _
    | exact spec_pageOne.mono _ _ _
    | exact LeO.none _
    | refine LeO.ite ?_ ?_
    | refine LeO.bind ?_ (fun _ => ?_)
  · intro y0 y1 y2 y3 y4 y5
    unfold spec_Precedence.j1
    repeat' first
    | (with_reducible exact ih0 _ _ _ _)
    | (with_reducible exact ih1 _ _ _ _ _ _)
    | (with_reducible exact ih2 _ _ _ _ _ _)
    | (with_reducible exact ih3 _ _ _ _ _ _ _ _)
    | (with_reducible exact ih4 _ _ _)
    | (with_reducible exact ih5 _ _ _)
    | (with_reducible exact ih6 _ _ _ _)
    | (with_reducible exact spec_CoreOf.mono _ _ _ _)
    | (with_reducible exact spec_orderNumbers.mono _ _ _)
    | (with_reducible exact spec_pageOne.mono _ _ _)
    | (with_reducible exact LeO.refl _)
    | (with_reducible exact LeO.none _)
    | (with_reducible refine LeO.ite ?_ ?_)
    | (with_reducible refine LeO.bind ?_ (fun _ => ?_))
    | exact ih0 _ _ _ _
    | exact ih1 _ _ _ _ _ _
    | exact ih2 _ _ _ _ _ _
    | exact ih3 _ _ _ _ _ _ _ _
    | exact ih4 _ _ _
    | exact ih5 _ _ _
    | exact ih6 _ _ _ _
    | exact spec_CoreOf.mono _ _ _ _
    | exact spec_orderNumbers.mono _ _ _
    | exact spec_pageOne.mono _ _ _
    | exact LeO.none _
    | refine LeO.ite ?_ ?_
    | refine LeO.bind ?_ (fun _ => ?_)
  · intro y0 y1 y2 y3 y4 y5
    unfold spec_Precedence.l0
    repeat' first
    | (with_reducible exact ih0 _ _ _ _)
    | (with_reducible exact ih1 _ _ _ _ _ _)
    | (with_reducible exact ih2 _ _ _ _ _ _)
    | (with_reducible exact ih3 _ _ _ _ _ _ _ _)
    | (with_reducible exact ih4 _ _ _)
    | (with_reducible exact ih5 _ _ _)
    | (with_reducible exact ih6 _ _ _ _)
    | (with_reducible exact spec_CoreOf.mono _ _ _ _)
    | (with_reducible exact spec_orderNumbers.mono _ _ _)
    | (with_reducible exact spec_pageOne.mono _ _ _)
    | (with_reducible exact LeO.refl _)
    | (with_reducible exact LeO.none _)
    | (with_reducible refine LeO.ite ?_ ?_)
    | (with_reducible refine LeO.bind ?_ (fun _ => ?_))
    | exact ih0 _ _ _ _
    | exact ih1 _ _ _ _ _ _
    | exact ih2 _ _ _ _ _ _
    | exact ih3 _ _ _ _ _ _ _ _
    | exact ih4 _ _ _
    | exact ih5 _ _ _
    | exact ih6 _ _ _ _
    | exact spec_CoreOf.mono _ _ _ _
    | exact spec_orderNumbers.mono _ _ _
    | exact spec_pageOne.mono _ _ _
    | exact LeO.none _
    | refine LeO.ite ?_ ?_
    | refine LeO.bind ?_ (fun _ => ?_)
  · intro y0 y1 y2 y3 y4 y5 y6 y7
    unfold spec_Precedence.j3
    repeat' first
    | (with_reducible exact ih0 _ _ _ _)
    | (with_reducible exact ih1 _ _ _ _ _ _)
    | (with_reducible exact ih2 _ _ _ _ _ _)
    | (with_reducible exact ih3 _ _ _ _ _ _ _ _)
    | (with_reducible exact ih4 _ _ _)
    | (with_reducible exact ih5 _ _ _)
    | (with_reducible exact ih6 _ _ _ _)
    | (with_reducible exact spec_CoreOf.mono _ _ _ _)
    | (with_reducible exact spec_orderNumbers.mono _ _ _)
    | (with_reducible exact spec_pageOne.mono _ _ _)
    | (with_reducible exact LeO.refl _)
    | (with_reducible exact LeO.none _)
    | (with_reducible refine LeO.ite ?_ ?_)
    | (with_reducible refine LeO.bind ?_ (fun _ => ?_))
    | exact ih0 _ _ _ _
    | exact ih1 _ _ _ _ _ _
    | exact ih2 _ _ _ _ _ _
    | exact ih3 _ _ _ _ _ _ _ _
    | exact ih4 _ _ _
    | exact ih5 _ _ _
    | exact ih6 _ _ _ _
    | exact spec_CoreOf.mono _ _ _ _
    | exact spec_orderNumbers.mono _ _ _
    | exact spec_pageOne.mono _ _ _
    | exact LeO.none _
    | refine LeO.ite ?_ ?_
    | refine LeO.bind ?_ (fun _ => ?_)
  · intro y0 y1 y2
    unfold spec_Precedence.j4
    repeat' first
    | (with_reducible exact ih0 _ _ _ _)
    | (with_reducible exact ih1 _ _ _ _ _ _)
    | (with_reducible exact ih2 _ _ _ _ _ _)
    | (with_reducible exact ih3 _ _ _ _ _ _ _ _)
    | (with_reducible exact ih4 _ _ _)
    | (with_reducible exact ih5 _ _ _)
    | (with_reducible exact ih6 _ _ _ _)
    | (with_reducible exact spec_CoreOf.mono _ _ _ _)
    | (with_reducible exact spec_orderNumbers.mono _ _ _)
    | (with_reducible exact spec_pageOne.mono _ _ _)
    | (with_reducible exact LeO.refl _)
    | (with_reducible exact LeO.none _)
    | (with_reducible refine LeO.ite ?_ ?_)
    | (with_reducible refine LeO.bind ?_ (fun _ => ?_))
    | exact ih0 _ _ _ _
    | exact ih1 _ _ _ _ _ _
    | exact ih2 _ _ _ _ _ _
    | exact ih3 _ _ _ _ _ _ _ _
    | exact ih4 _ _ _
    | exact ih5 _ _ _
    | exact ih6 _ _ _ _
    | exact spec_CoreOf.mono _ _ _ _
    | exact spec_orderNumbers.mono _ _ _
    | exact spec_pageOne.mono _ _ _
    | exact LeO.none _
    | refine LeO.ite ?_ ?_
    | refine LeO.bind ?_ (fun _ => ?_)
  · intro y0 y1 y2
    unfold spec_Precedence.l1
    repeat' first
    | (with_reducible exact ih0 _ _ _ _)
    | (with_reducible exact ih1 _ _ _ _ _ _)
    | (with_reducible exact ih2 _ _ _ _ _ _)
    | (with_reducible exact ih3 _ _ _ _ _ _ _ _)
    | (with_reducible exact ih4 _ _ _)
    | (with_reducible exact ih5 _ _ _)
    | (with_reducible exact ih6 _ _ _ _)
    | (with_reducible exact spec_CoreOf.mono _ _ _ _)
    | (with_reducible exact spec_orderNumbers.mono _ _ _)
    | (with_reducible exact spec_pageOne.mono _ _ _)
    | (with_reducible exact LeO.refl _)
    | (with_reducible exact LeO.none _)
    | (with_reducible refine LeO.ite ?_ ?_)
    | (with_reducible refine LeO.bind ?_ (fun _ => ?_))
    | exact ih0 _ _ _ _
    | exact ih1 _ _ _ _ _ _
    | exact ih2 _ _ _ _ _ _
    | exact ih3 _ _ _ _ _ _ _ _
    | exact ih4 _ _ _
    | exact ih5 _ _ _
    | exact ih6 _ _ _ _
    | exact spec_CoreOf.mono _ _ _ _
    | exact spec_orderNumbers.mono _ _ _
    | exact spec_pageOne.mono _ _ _
    | exact LeO.none _
    | refine LeO.ite ?_ ?_
    | refine LeO.bind ?_ (fun _ => ?_)
  · intro y0 y1 y2 y3
    unfold spec_Precedence.j6
    repeat' first
    | (with_reducible exact ih0 _ _ _ _)
    | (with_reducible exact ih1 _ _ _ _ _ _)
    | (with_reducible exact ih2 _ _ _ _ _ _)
    | (with_reducible exact ih3 _ _ _ _ _ _ _ _)
    | (with_reducible exact ih4 _ _ _)
    | (with_reducible exact ih5 _ _ _)
    | (with_reducible exact ih6 _ _ _ _)
    | (with_reducible exact spec_CoreOf.mono _ _ _ _)
    | (with_reducible exact spec_orderNumbers.mono _ _ _)
    | (with_reducible exact spec_pageOne.mono _ _ _)
    | (with_reducible exact LeO.refl _)
    | (with_reducible exact LeO.none _)
    | (with_reducible refine LeO.ite ?_ ?_)
    | (with_reducible refine LeO.bind ?_ (fun _ => ?_))
    | exact ih0 _ _ _ _
    | exact ih1 _ _ _ _ _ _
    | exact ih2 _ _ _ _ _ _
    | exact ih3 _ _ _ _ _ _ _ _
    | exact ih4 _ _ _
    | exact ih5 _ _ _
    | exact ih6 _ _ _ _
    | exact spec_CoreOf.mono _ _ _ _
    | exact spec_orderNumbers.mono _ _ _
    | exact spec_pageOne.mono _ _ _
    | exact LeO.none _
    | refine LeO.ite ?_ ?_
    | refine LeO.bind ?_ (fun _ => ?_)
theorem spec_Precedence.mono : ∀ a0 a1 a2 a3 a4 k, LeO (spec_Precedence.f k a0 a1 a2 a3 a4) (spec_Precedence.f (k + 1) a0 a1 a2 a3 a4) := by
 intro a0 a1 a2 a3 a4 k
 obtain ⟨ih0, ih1, ih2, ih3, ih4, ih5, ih6⟩ := spec_Precedence.mono_l k
 unfold spec_Precedence.f
 repeat' first
  | (with_reducible exact ih0 _ _ _ _)
  | (with_reducible exact ih1 _ _ _ _ _ _)
  | (with_reducible exact ih2 _ _ _ _ _ _)
  | (with_reducible exact ih3 _ _ _ _ _ _ _ _)
  | (with_reducible exact ih4 _ _ _)
  | (with_reducible exact ih5 _ _ _)
  | (with_reducible exact ih6 _ _ _ _)
  | (with_reducible exact spec_CoreOf.mono _ _ _ _)
  | (with_reducible exact spec_orderNumbers.mono _ _ _)
  | (with_reducible exact spec_pageOne.mono _ _ _)
  | (with_reducible exact LeO.refl _)
  | (with_reducible exact LeO.none _)
  | (with_reducible refine LeO.ite ?_ ?_)
  | (with_reducible refine LeO.bind ?_ (fun _ => ?_))
  | exact ih0 _ _ _ _
  | exact ih1 _ _ _ _ _ _
  | exact ih2 _ _ _ _ _ _
  | exact ih3 _ _ _ _ _ _ _ _
  | exact ih4 _ _ _
  | exact ih5 _ _ _
  | exact ih6 _ _ _ _
  | exact spec_CoreOf.mono _ _ _ _
  | exact spec_orderNumbers.mono _ _ _
  | exact spec_pageOne.mono _ _ _
  | exact LeO.none _
  | refine LeO.ite ?_ ?_
  | refine LeO.bind ?_ (fun _ => ?_)
set_option maxHeartbeats 8000000 in
set_option maxRecDepth 100000 in
theorem spec_Precedence.calls (k : Nat) (a0 : ByteArray) (a1 : ByteArray) (a2 : Int) (a3 : Int) (a4 : Bool) (r1 : Int) (r2 : Bool) (w : World) (h : spec_Precedence.f k a0 a1 a2 a3 a4 = some (r1, r2)) :
 Calls Tryz.prog 13 #[.string a0, .string a1, .int .i64 a2, .int .i64 a3, .bool a4] w fun e w' => e = .returned (.tuple #[.int .i64 r1, .bool r2]) ∧ Below w.heap.size w w' := by
 have HB := Aside0.mk (Below.refl w.heap.size w)
 have H : (if a4 = true then ((Giv.spec_lower.f a0).bind fun t132 => ((Giv.spec_lower.f a1).bind fun t133 => (spec_Precedence.j0 k t132 t133 a2 a3))) else (spec_Precedence.j0 k a0 a1 a2 a3)) = some (r1, r2) := h
 clear h
 have HC6 := Aside0.mk H
 clear H
 go_enter Tryz.func13, Tryz.ntmps13
 go_upto_if 26 with (fail)
 repeat (go_quiet (fail); go_upto_if 26 with (fail))
 go_cut [0, 1] (fun v0 v1 wc => ∃ (kq : Nat) (x0_5 : ByteArray) (x1_5 : ByteArray), v0 = .string x0_5 ∧ v1 = .string x1_5 ∧ Aside0 (spec_Precedence.j0 kq x0_5 x1_5 a2 a3 = some (r1, r2)) ∧ Aside0 (kq ≤ k) ∧ Aside0 (Below w.heap.size w wc))
 case first =>
  have H := HC6.out
  clear HC6
  by_cases c7 : a4 = true
  · subst c7
    have H1 : ((Giv.spec_lower.f a0).bind fun t132 => ((Giv.spec_lower.f a1).bind fun t133 => (spec_Precedence.j0 k t132 t133 a2 a3))) = some (r1, r2) := by rw [if_pos rfl] at H; exact H
    clear H
    have H := H1
    clear H1
    replace H := Option.bind_eq_some_iff.mp H
    obtain ⟨t132, A80, H⟩ := H
    replace H : ((Giv.spec_lower.f a1).bind fun t133 => (spec_Precedence.j0 k t132 t133 a2 a3)) = some (r1, r2) := H
    have A8 := Aside0.mk A80
    clear A80
    replace H := Option.bind_eq_some_iff.mp H
    obtain ⟨t133, A90, H⟩ := H
    replace H : (spec_Precedence.j0 k t132 t133 a2 a3) = some (r1, r2) := H
    have A9 := Aside0.mk A90
    clear A90
    have H' := Aside0.mk H
    clear H
    go_wp2_with (first | (go_at_call 26; (with_reducible refine (Giv.spec_lower.calls a0 t132 _ A8.out).mono ?_); rintro e w10 ⟨rfl, hb⟩; have n0_ := Aside0.mk (below_step (by repeat (first | (with_reducible first | exact HB.out | apply below_alloc | apply pw_below_drewN | apply below_drew1) | exact HB.out)) hb); clear HB; have HB := n0_; clear n0_; (try clear hb); (try clear hb2); (try clear hk); (try clear hi)) | (go_at_call 26; (with_reducible refine (Giv.spec_lower.calls a1 t133 _ A9.out).mono ?_); rintro e w11 ⟨rfl, hb⟩; have n0_ := Aside0.mk (below_step (by repeat (first | (with_reducible first | exact HB.out | apply below_alloc | apply pw_below_drewN | apply below_drew1) | exact HB.out)) hb); clear HB; have HB := n0_; clear n0_; (try clear hb); (try clear hb2); (try clear hk); (try clear hi)))
    repeat (go_quiet (first | (go_at_call 26; (with_reducible refine (Giv.spec_lower.calls a0 t132 _ A8.out).mono ?_); rintro e w10 ⟨rfl, hb⟩; have n0_ := Aside0.mk (below_step (by repeat (first | (with_reducible first | exact HB.out | apply below_alloc | apply pw_below_drewN | apply below_drew1) | exact HB.out)) hb); clear HB; have HB := n0_; clear n0_; (try clear hb); (try clear hb2); (try clear hk); (try clear hi)) | (go_at_call 26; (with_reducible refine (Giv.spec_lower.calls a1 t133 _ A9.out).mono ?_); rintro e w11 ⟨rfl, hb⟩; have n0_ := Aside0.mk (below_step (by repeat (first | (with_reducible first | exact HB.out | apply below_alloc | apply pw_below_drewN | apply below_drew1) | exact HB.out)) hb); clear HB; have HB := n0_; clear n0_; (try clear hb); (try clear hb2); (try clear hk); (try clear hi))); try go_wp2_with (first | (go_at_call 26; (with_reducible refine (Giv.spec_lower.calls a0 t132 _ A8.out).mono ?_); rintro e w10 ⟨rfl, hb⟩; have n0_ := Aside0.mk (below_step (by repeat (first | (with_reducible first | exact HB.out | apply below_alloc | apply pw_below_drewN | apply below_drew1) | exact HB.out)) hb); clear HB; have HB := n0_; clear n0_; (try clear hb); (try clear hb2); (try clear hk); (try clear hi)) | (go_at_call 26; (with_reducible refine (Giv.spec_lower.calls a1 t133 _ A9.out).mono ?_); rintro e w11 ⟨rfl, hb⟩; have n0_ := Aside0.mk (below_step (by repeat (first | (with_reducible first | exact HB.out | apply below_alloc | apply pw_below_drewN | apply below_drew1) | exact HB.out)) hb); clear HB; have HB := n0_; clear n0_; (try clear hb); (try clear hb2); (try clear hk); (try clear hi))))
    go_meet
    case rel => exact ⟨_, (t132), (t133), (by first | rfl | (simp; done) | (simp [*]; done) | (simp [bne_nil_]; done)), (by first | rfl | (simp; done) | (simp [*]; done) | (simp [bne_nil_]; done)), H', ⟨by first | omega | exact Nat.le_refl _⟩, ⟨by repeat (first | (with_reducible first | exact HB.out | apply below_alloc | apply pw_below_drewN | apply below_drew1) | exact HB.out)⟩⟩
  · replace c7 := Bool.eq_false_iff.mpr c7
    subst c7
    have H1 : (spec_Precedence.j0 k a0 a1 a2 a3) = some (r1, r2) := by rw [if_neg (show ¬ (false = true) by decide)] at H; exact H
    clear H
    have H := H1
    clear H1
    have H' := Aside0.mk H
    clear H
    go_wp2
    repeat (go_quiet (fail); try go_wp2)
    go_meet
    case rel => exact ⟨_, (a0), (a1), (by first | rfl | (simp; done) | (simp [*]; done) | (simp [bne_nil_]; done)), (by first | rfl | (simp; done) | (simp [*]; done) | (simp [bne_nil_]; done)), H', ⟨by first | omega | exact Nat.le_refl _⟩, ⟨by repeat (first | (with_reducible first | exact HB.out | apply below_alloc | apply pw_below_drewN | apply below_drew1) | exact HB.out)⟩⟩
 case rest =>
  clear HC6
  try clear c1
  try clear p2
  try clear c7
  obtain ⟨kq, x0_5, x1_5, rfl, rfl, HA, HJ5, HB⟩ := hcut
  cases kq with
  | zero => exact absurd HA.out (by simp [spec_Precedence.j0])
  | succ kj5 =>
   have H := HA.out
   clear HA
   simp only [spec_Precedence.j0] at H
   replace H := Option.bind_eq_some_iff.mp H
   obtain ⟨⟨t134, t135, t136, t137⟩, A120, H⟩ := H
   replace H : ((spec_CoreOf.f kj5 x1_5 a2 a3).bind fun bt142 => (if t137 = true then (spec_Precedence.j1 kj5 a3 t134 t135 bt142.1 bt142.2.1 (!bt142.2.2.2)) else (spec_Precedence.j1 kj5 a3 t134 t135 bt142.1 bt142.2.1 true))) = some (r1, r2) := H
   have A12 := Aside0.mk A120
   clear A120
   replace H := Option.bind_eq_some_iff.mp H
   obtain ⟨⟨t142, t143, t144, t145⟩, A130, H⟩ := H
   replace H : (if t137 = true then (spec_Precedence.j1 kj5 a3 t134 t135 t142 t143 (!t145)) else (spec_Precedence.j1 kj5 a3 t134 t135 t142 t143 true)) = some (r1, r2) := H
   have A13 := Aside0.mk A130
   clear A130
   have HC14 := Aside0.mk H
   clear H
   go_upto_region 5 with (first | (go_at_call 27; (with_reducible refine (spec_CoreOf.calls kj5 x0_5 a2 a3 t134 t135 t136 t137 _ A12.out).mono ?_); rintro e w15 ⟨v138, v140, rfl, ho0, ho1, hb⟩; have n0_ := Aside0.mk (Kd.R_lower ho0 (below_size (by repeat (first | (with_reducible first | exact HB.out | apply below_alloc | apply pw_below_drewN | apply below_drew1) | exact HB.out)))); have n1_ := Aside0.mk (Kd.R_lower ho1 (below_size (by repeat (first | (with_reducible first | exact HB.out | apply below_alloc | apply pw_below_drewN | apply below_drew1) | exact HB.out)))); have n2_ := Aside0.mk (below_step (by repeat (first | (with_reducible first | exact HB.out | apply below_alloc | apply pw_below_drewN | apply below_drew1) | exact HB.out)) hb); clear HB; have HO139 := n0_; have HO141 := n1_; have HB := n2_; clear n0_ n1_ n2_; (try clear hb); (try clear hb2); (try clear hk); (try clear hi); (try clear ho0); (try clear ho1)) | (go_at_call 27; (with_reducible refine (spec_CoreOf.calls kj5 x1_5 a2 a3 t142 t143 t144 t145 _ A13.out).mono ?_); rintro e w16 ⟨v146, v148, rfl, ho0, ho1, hb⟩; have n0_ := Aside0.mk (Kd.R_mono (Kd.R_told (Kd.R_told (Kd.R_old (by (with_reducible repeat (first | apply Kd.R_alloc | apply Kd.R_drewN | apply Kd.R_drew)); exact HO139.out) hb) (Kd.R_base ho0)) (Kd.R_base ho1)) (fun _ h_ => h_.1)); have n1_ := Aside0.mk (Kd.R_mono (Kd.R_told (Kd.R_told (Kd.R_old (by (with_reducible repeat (first | apply Kd.R_alloc | apply Kd.R_drewN | apply Kd.R_drew)); exact HO141.out) hb) (Kd.R_base ho0)) (Kd.R_base ho1)) (fun _ h_ => h_.1)); have n2_ := Aside0.mk (Kd.R_lower (Kd.R_new' (Kd.R_new' ho0 (Kd.R_lt (by (with_reducible repeat (first | apply Kd.R_alloc | apply Kd.R_drewN | apply Kd.R_drew)); exact HO139.out))) (Kd.R_lt (by (with_reducible repeat (first | apply Kd.R_alloc | apply Kd.R_drewN | apply Kd.R_drew)); exact HO141.out))) (below_size (by repeat (first | (with_reducible first | exact HB.out | apply below_alloc | apply pw_below_drewN | apply below_drew1) | exact HB.out)))); have n3_ := Aside0.mk (Kd.R_lower (Kd.R_new' (Kd.R_new' ho1 (Kd.R_lt (by (with_reducible repeat (first | apply Kd.R_alloc | apply Kd.R_drewN | apply Kd.R_drew)); exact HO139.out))) (Kd.R_lt (by (with_reducible repeat (first | apply Kd.R_alloc | apply Kd.R_drewN | apply Kd.R_drew)); exact HO141.out))) (below_size (by repeat (first | (with_reducible first | exact HB.out | apply below_alloc | apply pw_below_drewN | apply below_drew1) | exact HB.out)))); have n4_ := Aside0.mk (below_step (by repeat (first | (with_reducible first | exact HB.out | apply below_alloc | apply pw_below_drewN | apply below_drew1) | exact HB.out)) hb); clear HO139; clear HO141; clear HB; have HO139 := n0_; have HO141 := n1_; have HO147 := n2_; have HO149 := n3_; have HB := n4_; clear n0_ n1_ n2_ n3_ n4_; (try clear hb); (try clear hb2); (try clear hk); (try clear hi); (try clear ho0); (try clear ho1)))
   repeat (go_quiet (first | (go_at_call 27; (with_reducible refine (spec_CoreOf.calls kj5 x0_5 a2 a3 t134 t135 t136 t137 _ A12.out).mono ?_); rintro e w15 ⟨v138, v140, rfl, ho0, ho1, hb⟩; have n0_ := Aside0.mk (Kd.R_lower ho0 (below_size (by repeat (first | (with_reducible first | exact HB.out | apply below_alloc | apply pw_below_drewN | apply below_drew1) | exact HB.out)))); have n1_ := Aside0.mk (Kd.R_lower ho1 (below_size (by repeat (first | (with_reducible first | exact HB.out | apply below_alloc | apply pw_below_drewN | apply below_drew1) | exact HB.out)))); have n2_ := Aside0.mk (below_step (by repeat (first | (with_reducible first | exact HB.out | apply below_alloc | apply pw_below_drewN | apply below_drew1) | exact HB.out)) hb); clear HB; have HO139 := n0_; have HO141 := n1_; have HB := n2_; clear n0_ n1_ n2_; (try clear hb); (try clear hb2); (try clear hk); (try clear hi); (try clear ho0); (try clear ho1)) | (go_at_call 27; (with_reducible refine (spec_CoreOf.calls kj5 x1_5 a2 a3 t142 t143 t144 t145 _ A13.out).mono ?_); rintro e w16 ⟨v146, v148, rfl, ho0, ho1, hb⟩; have n0_ := Aside0.mk (Kd.R_mono (Kd.R_told (Kd.R_told (Kd.R_old (by (with_reducible repeat (first | apply Kd.R_alloc | apply Kd.R_drewN | apply Kd.R_drew)); exact HO139.out) hb) (Kd.R_base ho0)) (Kd.R_base ho1)) (fun _ h_ => h_.1)); have n1_ := Aside0.mk (Kd.R_mono (Kd.R_told (Kd.R_told (Kd.R_old (by (with_reducible repeat (first | apply Kd.R_alloc | apply Kd.R_drewN | apply Kd.R_drew)); exact HO141.out) hb) (Kd.R_base ho0)) (Kd.R_base ho1)) (fun _ h_ => h_.1)); have n2_ := Aside0.mk (Kd.R_lower (Kd.R_new' (Kd.R_new' ho0 (Kd.R_lt (by (with_reducible repeat (first | apply Kd.R_alloc | apply Kd.R_drewN | apply Kd.R_drew)); exact HO139.out))) (Kd.R_lt (by (with_reducible repeat (first | apply Kd.R_alloc | apply Kd.R_drewN | apply Kd.R_drew)); exact HO141.out))) (below_size (by repeat (first | (with_reducible first | exact HB.out | apply below_alloc | apply pw_below_drewN | apply below_drew1) | exact HB.out)))); have n3_ := Aside0.mk (Kd.R_lower (Kd.R_new' (Kd.R_new' ho1 (Kd.R_lt (by (with_reducible repeat (first | apply Kd.R_alloc | apply Kd.R_drewN | apply Kd.R_drew)); exact HO139.out))) (Kd.R_lt (by (with_reducible repeat (first | apply Kd.R_alloc | apply Kd.R_drewN | apply Kd.R_drew)); exact HO141.out))) (below_size (by repeat (first | (with_reducible first | exact HB.out | apply below_alloc | apply pw_below_drewN | apply below_drew1) | exact HB.out)))); have n4_ := Aside0.mk (below_step (by repeat (first | (with_reducible first | exact HB.out | apply below_alloc | apply pw_below_drewN | apply below_drew1) | exact HB.out)) hb); clear HO139; clear HO141; clear HB; have HO139 := n0_; have HO141 := n1_; have HO147 := n2_; have HO149 := n3_; have HB := n4_; clear n0_ n1_ n2_ n3_ n4_; (try clear hb); (try clear hb2); (try clear hk); (try clear hi); (try clear ho0); (try clear ho1))); go_upto_region 5 with (first | (go_at_call 27; (with_reducible refine (spec_CoreOf.calls kj5 x0_5 a2 a3 t134 t135 t136 t137 _ A12.out).mono ?_); rintro e w15 ⟨v138, v140, rfl, ho0, ho1, hb⟩; have n0_ := Aside0.mk (Kd.R_lower ho0 (below_size (by repeat (first | (with_reducible first | exact HB.out | apply below_alloc | apply pw_below_drewN | apply below_drew1) | exact HB.out)))); have n1_ := Aside0.mk (Kd.R_lower ho1 (below_size (by repeat (first | (with_reducible first | exact HB.out | apply below_alloc | apply pw_below_drewN | apply below_drew1) | exact HB.out)))); have n2_ := Aside0.mk (below_step (by repeat (first | (with_reducible first | exact HB.out | apply below_alloc | apply pw_below_drewN | apply below_drew1) | exact HB.out)) hb); clear HB; have HO139 := n0_; have HO141 := n1_; have HB := n2_; clear n0_ n1_ n2_; (try clear hb); (try clear hb2); (try clear hk); (try clear hi); (try clear ho0); (try clear ho1)) | (go_at_call 27; (with_reducible refine (spec_CoreOf.calls kj5 x1_5 a2 a3 t142 t143 t144 t145 _ A13.out).mono ?_); rintro e w16 ⟨v146, v148, rfl, ho0, ho1, hb⟩; have n0_ := Aside0.mk (Kd.R_mono (Kd.R_told (Kd.R_told (Kd.R_old (by (with_reducible repeat (first | apply Kd.R_alloc | apply Kd.R_drewN | apply Kd.R_drew)); exact HO139.out) hb) (Kd.R_base ho0)) (Kd.R_base ho1)) (fun _ h_ => h_.1)); have n1_ := Aside0.mk (Kd.R_mono (Kd.R_told (Kd.R_told (Kd.R_old (by (with_reducible repeat (first | apply Kd.R_alloc | apply Kd.R_drewN | apply Kd.R_drew)); exact HO141.out) hb) (Kd.R_base ho0)) (Kd.R_base ho1)) (fun _ h_ => h_.1)); have n2_ := Aside0.mk (Kd.R_lower (Kd.R_new' (Kd.R_new' ho0 (Kd.R_lt (by (with_reducible repeat (first | apply Kd.R_alloc | apply Kd.R_drewN | apply Kd.R_drew)); exact HO139.out))) (Kd.R_lt (by (with_reducible repeat (first | apply Kd.R_alloc | apply Kd.R_drewN | apply Kd.R_drew)); exact HO141.out))) (below_size (by repeat (first | (with_reducible first | exact HB.out | apply below_alloc | apply pw_below_drewN | apply below_drew1) | exact HB.out)))); have n3_ := Aside0.mk (Kd.R_lower (Kd.R_new' (Kd.R_new' ho1 (Kd.R_lt (by (with_reducible repeat (first | apply Kd.R_alloc | apply Kd.R_drewN | apply Kd.R_drew)); exact HO139.out))) (Kd.R_lt (by (with_reducible repeat (first | apply Kd.R_alloc | apply Kd.R_drewN | apply Kd.R_drew)); exact HO141.out))) (below_size (by repeat (first | (with_reducible first | exact HB.out | apply below_alloc | apply pw_below_drewN | apply below_drew1) | exact HB.out)))); have n4_ := Aside0.mk (below_step (by repeat (first | (with_reducible first | exact HB.out | apply below_alloc | apply pw_below_drewN | apply below_drew1) | exact HB.out)) hb); clear HO139; clear HO141; clear HB; have HO139 := n0_; have HO141 := n1_; have HO147 := n2_; have HO149 := n3_; have HB := n4_; clear n0_ n1_ n2_ n3_ n4_; (try clear hb); (try clear hb2); (try clear hk); (try clear hi); (try clear ho0); (try clear ho1))))
   (try simp only [Act.put, List.setIfInBounds_toArray, List.set_cons_zero, List.set_cons_succ])
   go_cut [54] (fun v54 wc => ∃ (kq : Nat) (x54_13 : Bool), v54 = .bool x54_13 ∧ Aside0 (spec_Precedence.j1 kq a3 t134 t135 t142 t143 x54_13 = some (r1, r2)) ∧ Aside0 (kq ≤ kj5) ∧ Aside0 (Kd.R Kd.string 9 wc w.heap.size (fun k_ => some k_ ≠ (v140 : Value).ownBlock ∧ some k_ ≠ (v146 : Value).ownBlock ∧ some k_ ≠ (v148 : Value).ownBlock) v138 t134) ∧ Aside0 (Kd.R Kd.string 9 wc w.heap.size (fun k_ => some k_ ≠ (v138 : Value).ownBlock ∧ some k_ ≠ (v146 : Value).ownBlock ∧ some k_ ≠ (v148 : Value).ownBlock) v140 t135) ∧ Aside0 (Kd.R Kd.string 9 wc w.heap.size (fun k_ => some k_ ≠ (v138 : Value).ownBlock ∧ some k_ ≠ (v140 : Value).ownBlock ∧ some k_ ≠ (v148 : Value).ownBlock) v146 t142) ∧ Aside0 (Kd.R Kd.string 9 wc w.heap.size (fun k_ => some k_ ≠ (v138 : Value).ownBlock ∧ some k_ ≠ (v140 : Value).ownBlock ∧ some k_ ≠ (v146 : Value).ownBlock) v148 t143) ∧ Aside0 (Below w.heap.size w wc))
   case first =>
    have H := HC14.out
    clear HC14
    by_cases c17 : t137 = true
    · subst c17
      have H1 : (spec_Precedence.j1 kj5 a3 t134 t135 t142 t143 (!t145)) = some (r1, r2) := by rw [if_pos rfl] at H; exact H
      clear H
      have H := H1
      clear H1
      have H' := Aside0.mk H
      clear H
      go_wp2
      repeat (go_quiet (fail); try go_wp2)
      go_meet
      case rel => exact ⟨_, (!t145), (by first | rfl | (simp; done) | (simp [*]; done) | (simp [bne_nil_]; done)), H', ⟨by have := HJ5.out; first | omega | exact Nat.le_refl _⟩, ⟨by (with_reducible repeat (first | apply Kd.R_alloc | apply Kd.R_drewN | apply Kd.R_drew)); exact Kd.R_mono HO139.out (fun _ hk => ⟨hk.1.1, ⟨hk.1.2, hk.2⟩⟩)⟩, ⟨by (with_reducible repeat (first | apply Kd.R_alloc | apply Kd.R_drewN | apply Kd.R_drew)); exact Kd.R_mono HO141.out (fun _ hk => ⟨hk.1.1, ⟨hk.1.2, hk.2⟩⟩)⟩, ⟨by (with_reducible repeat (first | apply Kd.R_alloc | apply Kd.R_drewN | apply Kd.R_drew)); exact Kd.R_mono HO147.out (fun _ hk => ⟨hk.1.2, ⟨hk.2, hk.1.1⟩⟩)⟩, ⟨by (with_reducible repeat (first | apply Kd.R_alloc | apply Kd.R_drewN | apply Kd.R_drew)); exact Kd.R_mono HO149.out (fun _ hk => ⟨hk.1.2, ⟨hk.2, hk.1.1⟩⟩)⟩, ⟨by repeat (first | (with_reducible first | exact HB.out | apply below_alloc | apply pw_below_drewN | apply below_drew1) | exact HB.out)⟩⟩
    · replace c17 := Bool.eq_false_iff.mpr c17
      subst c17
      have H1 : (spec_Precedence.j1 kj5 a3 t134 t135 t142 t143 true) = some (r1, r2) := by rw [if_neg (show ¬ (false = true) by decide)] at H; exact H
      clear H
      have H := H1
      clear H1
      have H' := Aside0.mk H
      clear H
      go_wp2
      repeat (go_quiet (fail); try go_wp2)
      go_meet
      case rel => exact ⟨_, (true), (by first | rfl | (simp; done) | (simp [*]; done) | (simp [bne_nil_]; done)), H', ⟨by have := HJ5.out; first | omega | exact Nat.le_refl _⟩, ⟨by (with_reducible repeat (first | apply Kd.R_alloc | apply Kd.R_drewN | apply Kd.R_drew)); exact Kd.R_mono HO139.out (fun _ hk => ⟨hk.1.1, ⟨hk.1.2, hk.2⟩⟩)⟩, ⟨by (with_reducible repeat (first | apply Kd.R_alloc | apply Kd.R_drewN | apply Kd.R_drew)); exact Kd.R_mono HO141.out (fun _ hk => ⟨hk.1.1, ⟨hk.1.2, hk.2⟩⟩)⟩, ⟨by (with_reducible repeat (first | apply Kd.R_alloc | apply Kd.R_drewN | apply Kd.R_drew)); exact Kd.R_mono HO147.out (fun _ hk => ⟨hk.1.2, ⟨hk.2, hk.1.1⟩⟩)⟩, ⟨by (with_reducible repeat (first | apply Kd.R_alloc | apply Kd.R_drewN | apply Kd.R_drew)); exact Kd.R_mono HO149.out (fun _ hk => ⟨hk.1.2, ⟨hk.2, hk.1.1⟩⟩)⟩, ⟨by repeat (first | (with_reducible first | exact HB.out | apply below_alloc | apply pw_below_drewN | apply below_drew1) | exact HB.out)⟩⟩
   case rest =>
    clear HC14
    try clear c1
    try clear p2
    try clear c7
    try clear c13
    try clear c17
    try clear p2
    obtain ⟨kq, x54_13, rfl, HA, HJ13, HO_12, HO_13, HO_16, HO_17, HB⟩ := hcut
    cases kq with
    | zero => exact absurd HA.out (by simp [spec_Precedence.j1])
    | succ kj13 =>
     have H := HA.out
     clear HA
     simp only [spec_Precedence.j1] at H
     by_cases c18 : x54_13 = true
     · subst c18
       have H1 : (some (0, false)) = some (r1, r2) := by rw [if_pos rfl] at H; exact H
       clear H
       have H := H1
       clear H1
       simp only [Option.some.injEq, Prod.mk.injEq] at H
       obtain ⟨rfl, rfl⟩ := H
       go_wp2
       repeat (go_quiet (fail); try go_wp2)
       go_ret2
       exact ⟨by first | rfl | (simp [errW_none, errW_some] <;> rfl) | (simp [*, errW_none, errW_some] <;> rfl) | (simp [bne_nil_]; done), by repeat (first | (with_reducible first | exact HB.out | apply below_alloc | apply pw_below_drewN | apply below_drew1) | exact HB.out)⟩
     · replace c18 := Bool.eq_false_iff.mpr c18
       subst c18
       have H1 : (spec_Precedence.l0 kj13 a3 t134 t135 t142 t143 0) = some (r1, r2) := by rw [if_neg (show ¬ (false = true) by decide)] at H; exact H
       clear H
       have H := H1
       clear H1
       have H' := Aside0.mk H
       clear H
       go_wp2
       repeat (go_quiet (fail); try go_wp2)
       go_loopg [20] kj13 (fun kq v20 w' => ∃ (x20_3 : Int), v20 = .int .i64 x20_3 ∧ Aside0 (spec_Precedence.l0 kq a3 t134 t135 t142 t143 x20_3 = some (r1, r2)) ∧ Aside0 (kq ≤ kj13) ∧ Aside0 (Kd.R Kd.string 9 w' w.heap.size (fun k_ => some k_ ≠ (v140 : Value).ownBlock ∧ some k_ ≠ (v146 : Value).ownBlock ∧ some k_ ≠ (v148 : Value).ownBlock) v138 t134) ∧ Aside0 (Kd.R Kd.string 9 w' w.heap.size (fun k_ => some k_ ≠ (v138 : Value).ownBlock ∧ some k_ ≠ (v146 : Value).ownBlock ∧ some k_ ≠ (v148 : Value).ownBlock) v140 t135) ∧ Aside0 (Kd.R Kd.string 9 w' w.heap.size (fun k_ => some k_ ≠ (v138 : Value).ownBlock ∧ some k_ ≠ (v140 : Value).ownBlock ∧ some k_ ≠ (v148 : Value).ownBlock) v146 t142) ∧ Aside0 (Kd.R Kd.string 9 w' w.heap.size (fun k_ => some k_ ≠ (v138 : Value).ownBlock ∧ some k_ ≠ (v140 : Value).ownBlock ∧ some k_ ≠ (v146 : Value).ownBlock) v148 t143) ∧ Aside0 (Below w.heap.size w w'))
       case atStart => exact ⟨(0), (by first | rfl | (simp; done) | (simp [*]; done) | (simp [bne_nil_]; done)), H', ⟨Nat.le_refl _⟩, ⟨by (with_reducible repeat (first | apply Kd.R_alloc | apply Kd.R_drewN | apply Kd.R_drew)); exact HO_12.out⟩, ⟨by (with_reducible repeat (first | apply Kd.R_alloc | apply Kd.R_drewN | apply Kd.R_drew)); exact HO_13.out⟩, ⟨by (with_reducible repeat (first | apply Kd.R_alloc | apply Kd.R_drewN | apply Kd.R_drew)); exact HO_16.out⟩, ⟨by (with_reducible repeat (first | apply Kd.R_alloc | apply Kd.R_drewN | apply Kd.R_drew)); exact HO_17.out⟩, ⟨by repeat (first | (with_reducible first | exact HB.out | apply below_alloc | apply pw_below_drewN | apply below_drew1) | exact HB.out)⟩⟩
       case round =>
        clear H'
        try clear c1
        try clear p2
        try clear c7
        try clear c13
        try clear c17
        try clear c18
        try clear p2
        obtain ⟨x20_3, rfl, HA, HK3, HO_12, HO_13, HO_16, HO_17, HB⟩ := hrel
        cases gk with
        | zero => exact absurd HA.out (by simp [spec_Precedence.l0])
        | succ k3 =>
         have H := HA.out
         clear HA
         simp only [spec_Precedence.l0] at H
         by_cases c19 : x20_3 < a3
         · rw [if_pos c19] at H
           have c19b0 : decide (x20_3 < a3) = true := decide_eq_true c19
           clear c19
           have HC20 := Aside0.mk H
           clear H
           obtain ⟨Ao21, co21, eo21⟩ := Kd.R_slice HO_12.out
           subst eo21
           go_upto_if 63 with (fail)
           repeat (go_quiet (fail); go_upto_if 63 with (fail))
           go_cut [21] (fun v21 wc => ∃ (kq : Nat) (x21_19 : ByteArray), v21 = .string x21_19 ∧ Aside0 (spec_Precedence.j3 kq a3 t134 t135 t142 t143 x20_3 x21_19 (⟨#[48]⟩ : ByteArray) = some (r1, r2)) ∧ Aside0 (kq ≤ k3) ∧ Aside0 (Kd.R Kd.string 9 wc w.heap.size (fun k_ => some k_ ≠ (v140 : Value).ownBlock ∧ some k_ ≠ (v146 : Value).ownBlock ∧ some k_ ≠ (v148 : Value).ownBlock) (.slice Ao21 t134.length co21) t134) ∧ Aside0 (Kd.R Kd.string 9 wc w.heap.size (fun k_ => some k_ ≠ ((.slice Ao21 t134.length co21) : Value).ownBlock ∧ some k_ ≠ (v146 : Value).ownBlock ∧ some k_ ≠ (v148 : Value).ownBlock) v140 t135) ∧ Aside0 (Kd.R Kd.string 9 wc w.heap.size (fun k_ => some k_ ≠ ((.slice Ao21 t134.length co21) : Value).ownBlock ∧ some k_ ≠ (v140 : Value).ownBlock ∧ some k_ ≠ (v148 : Value).ownBlock) v146 t142) ∧ Aside0 (Kd.R Kd.string 9 wc w.heap.size (fun k_ => some k_ ≠ ((.slice Ao21 t134.length co21) : Value).ownBlock ∧ some k_ ≠ (v140 : Value).ownBlock ∧ some k_ ≠ (v146 : Value).ownBlock) v148 t143) ∧ Aside0 (Below w.heap.size w wc))
           case first =>
            have H := HC20.out
            clear HC20
            by_cases c22 : x20_3 < (t134.length : Int)
            · rw [if_pos c22] at H
              have c22b0 : decide (x20_3 < (t134.length : Int)) = true := decide_eq_true c22
              clear c22
              (first | rw [c22b0] | (simp only [i64_w, i32_w]; rw [c22b0]) | skip)
              by_cases c23 : 0 ≤ x20_3
              · rw [if_pos c23] at H
                have c23b0 : decide (0 ≤ x20_3) = true := decide_eq_true c23
                clear c23
                have H' := Aside0.mk H
                clear H
                have p150 : 0 ≤ (x20_3 : Int) := of_decide_eq_true (by first | (with_reducible assumption) | assumption)
                have q150 : x20_3 < (t134.length : Int) := of_decide_eq_true (by first | (with_reducible assumption) | assumption)
                obtain ⟨ad150, e150, hx150_0⟩ := Kd.at_string (Kd.R_reads' HO_12.out).2.2 x20_3 p150 q150
                cases e150
                replace p150 := eq_true p150
                replace q150 := eq_true q150
                go_wp2
                repeat (go_quiet (fail); try go_wp2)
                go_meet
                case rel => exact ⟨_, (rdOf ByteArray.empty t134 x20_3), (by first | rfl | (simp; done) | (simp [*]; done) | (simp [bne_nil_]; done)), H', ⟨by have := HJ5.out; have := HJ13.out; have := HK3.out; first | omega | exact Nat.le_refl _⟩, ⟨by (with_reducible repeat (first | apply Kd.R_alloc | apply Kd.R_drewN | apply Kd.R_drew)); exact HO_12.out⟩, ⟨by (with_reducible repeat (first | apply Kd.R_alloc | apply Kd.R_drewN | apply Kd.R_drew)); exact HO_13.out⟩, ⟨by (with_reducible repeat (first | apply Kd.R_alloc | apply Kd.R_drewN | apply Kd.R_drew)); exact HO_16.out⟩, ⟨by (with_reducible repeat (first | apply Kd.R_alloc | apply Kd.R_drewN | apply Kd.R_drew)); exact HO_17.out⟩, ⟨by repeat (first | (with_reducible first | exact HB.out | apply below_alloc | apply pw_below_drewN | apply below_drew1) | exact HB.out)⟩⟩
              · rw [if_neg c23] at H
                exact absurd H (by simp)
            · rw [if_neg c22] at H
              have c22b0 : decide (x20_3 < (t134.length : Int)) = false := decide_eq_false c22
              clear c22
              (first | rw [c22b0] | (simp only [i64_w, i32_w]; rw [c22b0]) | skip)
              have H' := Aside0.mk H
              clear H
              go_wp2
              repeat (go_quiet (fail); try go_wp2)
              go_meet
              case rel => exact ⟨_, ((⟨#[48]⟩ : ByteArray)), (by first | rfl | (simp; done) | (simp [*]; done) | (simp [bne_nil_]; done)), H', ⟨by have := HJ5.out; have := HJ13.out; have := HK3.out; first | omega | exact Nat.le_refl _⟩, ⟨by (with_reducible repeat (first | apply Kd.R_alloc | apply Kd.R_drewN | apply Kd.R_drew)); exact HO_12.out⟩, ⟨by (with_reducible repeat (first | apply Kd.R_alloc | apply Kd.R_drewN | apply Kd.R_drew)); exact HO_13.out⟩, ⟨by (with_reducible repeat (first | apply Kd.R_alloc | apply Kd.R_drewN | apply Kd.R_drew)); exact HO_16.out⟩, ⟨by (with_reducible repeat (first | apply Kd.R_alloc | apply Kd.R_drewN | apply Kd.R_drew)); exact HO_17.out⟩, ⟨by repeat (first | (with_reducible first | exact HB.out | apply below_alloc | apply pw_below_drewN | apply below_drew1) | exact HB.out)⟩⟩
           case rest =>
            clear HC20
            try clear c1
            try clear p1
            try clear q1
            try clear hx1
            try clear c2
            try clear p2
            try clear c7
            try clear c13
            try clear p15
            try clear q15
            try clear hx15
            try clear c17
            try clear c18
            try clear c19
            try clear c19b0
            try clear c22
            try clear c22b0
            try clear c23
            try clear c23b0
            try clear hx150_0
            try clear p150
            try clear p2
            try clear q150
            obtain ⟨kq, x21_19, rfl, HA, HJ19, HO_12, HO_13, HO_16, HO_17, HB⟩ := hcut
            cases kq with
            | zero => exact absurd HA.out (by simp [spec_Precedence.j3])
            | succ kj19 =>
             have H := HA.out
             clear HA
             simp only [spec_Precedence.j3] at H
             by_cases c24 : x20_3 < (t142.length : Int)
             · rw [if_pos c24] at H
               have c24b0 : decide (x20_3 < (t142.length : Int)) = true := decide_eq_true c24
               clear c24
               by_cases c25 : 0 ≤ x20_3
               · rw [if_pos c25] at H
                 have c25b0 : decide (0 ≤ x20_3) = true := decide_eq_true c25
                 clear c25
                 replace H := Option.bind_eq_some_iff.mp H
                 obtain ⟨t152, A260, H⟩ := H
                 replace H : (if t152 = 0 then (spec_Precedence.l0 kj19 a3 t134 t135 t142 t143 (wrap64 (x20_3 + 1))) else (some (t152, true))) = some (r1, r2) := H
                 have A26 := Aside0.mk A260
                 clear A260
                 by_cases c27 : t152 = 0
                 · rw [if_pos c27] at H
                   have c27b0 : (t152 == 0) = true := beq_iff_eq.mpr c27
                   have c27b1 : (t152 != 0) = false := bne_eq_false_iff_eq.mpr c27
                   clear c27
                   have H' := Aside0.mk H
                   clear H
                   obtain ⟨Ao28, co28, eo28⟩ := Kd.R_slice HO_16.out
                   subst eo28
                   have p151 : 0 ≤ (x20_3 : Int) := of_decide_eq_true (by first | (with_reducible assumption) | assumption)
                   have q151 : x20_3 < (t142.length : Int) := of_decide_eq_true (by first | (with_reducible assumption) | assumption)
                   obtain ⟨ad151, e151, hx151_0⟩ := Kd.at_string (Kd.R_reads' HO_16.out).2.2 x20_3 p151 q151
                   cases e151
                   replace p151 := eq_true p151
                   replace q151 := eq_true q151
                   go_wp2_with (first | (go_at_call 28; (with_reducible refine (spec_orderNumbers.calls kj19 x21_19 (rdOf ByteArray.empty t142 x20_3) t152 _ A26.out).mono ?_); rintro e w' ⟨rfl, ⟨nd, rfl⟩⟩; (try first | exact ⟨rfl, _, World.drewN_drewN _ _ _⟩ | exact ⟨rfl, _, Eq.trans (World.drewN_drewN _ _ _) (congrArg (World.drewN _) (Nat.add_assoc _ _ _))⟩)))
                   repeat (go_quiet (first | (go_at_call 28; (with_reducible refine (spec_orderNumbers.calls kj19 x21_19 (rdOf ByteArray.empty t142 x20_3) t152 _ A26.out).mono ?_); rintro e w' ⟨rfl, ⟨nd, rfl⟩⟩; (try first | exact ⟨rfl, _, World.drewN_drewN _ _ _⟩ | exact ⟨rfl, _, Eq.trans (World.drewN_drewN _ _ _) (congrArg (World.drewN _) (Nat.add_assoc _ _ _))⟩))); try go_wp2_with (first | (go_at_call 28; (with_reducible refine (spec_orderNumbers.calls kj19 x21_19 (rdOf ByteArray.empty t142 x20_3) t152 _ A26.out).mono ?_); rintro e w' ⟨rfl, ⟨nd, rfl⟩⟩; (try first | exact ⟨rfl, _, World.drewN_drewN _ _ _⟩ | exact ⟨rfl, _, Eq.trans (World.drewN_drewN _ _ _) (congrArg (World.drewN _) (Nat.add_assoc _ _ _))⟩))))
                   go_roundg kj19
                   case measure => have := HJ5.out; have := HJ13.out; have := HK3.out; have := HJ19.out; omega
                   case rel => exact ⟨(wrap64 (x20_3 + 1)), (by first | rfl | (simp; done) | (simp [*]; done) | (simp [bne_nil_]; done)), H', ⟨by have := HJ5.out; have := HJ13.out; have := HK3.out; have := HJ19.out; omega⟩, ⟨by (with_reducible repeat (first | apply Kd.R_alloc | apply Kd.R_drewN | apply Kd.R_drew)); exact HO_12.out⟩, ⟨by (with_reducible repeat (first | apply Kd.R_alloc | apply Kd.R_drewN | apply Kd.R_drew)); exact HO_13.out⟩, ⟨by (with_reducible repeat (first | apply Kd.R_alloc | apply Kd.R_drewN | apply Kd.R_drew)); exact HO_16.out⟩, ⟨by (with_reducible repeat (first | apply Kd.R_alloc | apply Kd.R_drewN | apply Kd.R_drew)); exact HO_17.out⟩, ⟨by repeat (first | (with_reducible first | exact HB.out | apply below_alloc | apply pw_below_drewN | apply below_drew1) | exact HB.out)⟩⟩
                 · rw [if_neg c27] at H
                   have c27b0 : (t152 == 0) = false := beq_eq_false_iff_ne.mpr c27
                   have c27b1 : (t152 != 0) = true := bne_iff_ne.mpr c27
                   simp only [Option.some.injEq, Prod.mk.injEq] at H
                   obtain ⟨rfl, rfl⟩ := H
                   obtain ⟨Ao29, co29, eo29⟩ := Kd.R_slice HO_16.out
                   subst eo29
                   have p151 : 0 ≤ (x20_3 : Int) := of_decide_eq_true (by first | (with_reducible assumption) | assumption)
                   have q151 : x20_3 < (t142.length : Int) := of_decide_eq_true (by first | (with_reducible assumption) | assumption)
                   obtain ⟨ad151, e151, hx151_0⟩ := Kd.at_string (Kd.R_reads' HO_16.out).2.2 x20_3 p151 q151
                   cases e151
                   replace p151 := eq_true p151
                   replace q151 := eq_true q151
                   go_wp2_with (first | (go_at_call 28; (with_reducible refine (spec_orderNumbers.calls kj19 x21_19 (rdOf ByteArray.empty t142 x20_3) t152 _ A26.out).mono ?_); rintro e w' ⟨rfl, ⟨nd, rfl⟩⟩; (try first | exact ⟨rfl, _, World.drewN_drewN _ _ _⟩ | exact ⟨rfl, _, Eq.trans (World.drewN_drewN _ _ _) (congrArg (World.drewN _) (Nat.add_assoc _ _ _))⟩)))
                   repeat (go_quiet (first | (go_at_call 28; (with_reducible refine (spec_orderNumbers.calls kj19 x21_19 (rdOf ByteArray.empty t142 x20_3) t152 _ A26.out).mono ?_); rintro e w' ⟨rfl, ⟨nd, rfl⟩⟩; (try first | exact ⟨rfl, _, World.drewN_drewN _ _ _⟩ | exact ⟨rfl, _, Eq.trans (World.drewN_drewN _ _ _) (congrArg (World.drewN _) (Nat.add_assoc _ _ _))⟩))); try go_wp2_with (first | (go_at_call 28; (with_reducible refine (spec_orderNumbers.calls kj19 x21_19 (rdOf ByteArray.empty t142 x20_3) t152 _ A26.out).mono ?_); rintro e w' ⟨rfl, ⟨nd, rfl⟩⟩; (try first | exact ⟨rfl, _, World.drewN_drewN _ _ _⟩ | exact ⟨rfl, _, Eq.trans (World.drewN_drewN _ _ _) (congrArg (World.drewN _) (Nat.add_assoc _ _ _))⟩))))
                   go_ret2
                   exact ⟨by first | rfl | (simp [errW_none, errW_some] <;> rfl) | (simp [*, errW_none, errW_some] <;> rfl) | (simp [bne_nil_]; done), by repeat (first | (with_reducible first | exact HB.out | apply below_alloc | apply pw_below_drewN | apply below_drew1) | exact HB.out)⟩
               · rw [if_neg c25] at H
                 exact absurd H (by simp)
             · rw [if_neg c24] at H
               have c24b0 : decide (x20_3 < (t142.length : Int)) = false := decide_eq_false c24
               clear c24
               replace H := Option.bind_eq_some_iff.mp H
               obtain ⟨t153, A300, H⟩ := H
               replace H : (if t153 = 0 then (spec_Precedence.l0 kj19 a3 t134 t135 t142 t143 (wrap64 (x20_3 + 1))) else (some (t153, true))) = some (r1, r2) := H
               have A30 := Aside0.mk A300
               clear A300
               by_cases c31 : t153 = 0
               · rw [if_pos c31] at H
                 have c31b0 : (t153 == 0) = true := beq_iff_eq.mpr c31
                 have c31b1 : (t153 != 0) = false := bne_eq_false_iff_eq.mpr c31
                 clear c31
                 have H' := Aside0.mk H
                 clear H
                 obtain ⟨Ao32, co32, eo32⟩ := Kd.R_slice HO_16.out
                 subst eo32
                 go_wp2_with (first | (go_at_call 28; (with_reducible refine (spec_orderNumbers.calls kj19 x21_19 (⟨#[48]⟩ : ByteArray) t153 _ A30.out).mono ?_); rintro e w' ⟨rfl, ⟨nd, rfl⟩⟩; (try first | exact ⟨rfl, _, World.drewN_drewN _ _ _⟩ | exact ⟨rfl, _, Eq.trans (World.drewN_drewN _ _ _) (congrArg (World.drewN _) (Nat.add_assoc _ _ _))⟩)))
                 repeat (go_quiet (first | (go_at_call 28; (with_reducible refine (spec_orderNumbers.calls kj19 x21_19 (⟨#[48]⟩ : ByteArray) t153 _ A30.out).mono ?_); rintro e w' ⟨rfl, ⟨nd, rfl⟩⟩; (try first | exact ⟨rfl, _, World.drewN_drewN _ _ _⟩ | exact ⟨rfl, _, Eq.trans (World.drewN_drewN _ _ _) (congrArg (World.drewN _) (Nat.add_assoc _ _ _))⟩))); try go_wp2_with (first | (go_at_call 28; (with_reducible refine (spec_orderNumbers.calls kj19 x21_19 (⟨#[48]⟩ : ByteArray) t153 _ A30.out).mono ?_); rintro e w' ⟨rfl, ⟨nd, rfl⟩⟩; (try first | exact ⟨rfl, _, World.drewN_drewN _ _ _⟩ | exact ⟨rfl, _, Eq.trans (World.drewN_drewN _ _ _) (congrArg (World.drewN _) (Nat.add_assoc _ _ _))⟩))))
                 go_roundg kj19
                 case measure => have := HJ5.out; have := HJ13.out; have := HK3.out; have := HJ19.out; omega
                 case rel => exact ⟨(wrap64 (x20_3 + 1)), (by first | rfl | (simp; done) | (simp [*]; done) | (simp [bne_nil_]; done)), H', ⟨by have := HJ5.out; have := HJ13.out; have := HK3.out; have := HJ19.out; omega⟩, ⟨by (with_reducible repeat (first | apply Kd.R_alloc | apply Kd.R_drewN | apply Kd.R_drew)); exact HO_12.out⟩, ⟨by (with_reducible repeat (first | apply Kd.R_alloc | apply Kd.R_drewN | apply Kd.R_drew)); exact HO_13.out⟩, ⟨by (with_reducible repeat (first | apply Kd.R_alloc | apply Kd.R_drewN | apply Kd.R_drew)); exact HO_16.out⟩, ⟨by (with_reducible repeat (first | apply Kd.R_alloc | apply Kd.R_drewN | apply Kd.R_drew)); exact HO_17.out⟩, ⟨by repeat (first | (with_reducible first | exact HB.out | apply below_alloc | apply pw_below_drewN | apply below_drew1) | exact HB.out)⟩⟩
               · rw [if_neg c31] at H
                 have c31b0 : (t153 == 0) = false := beq_eq_false_iff_ne.mpr c31
                 have c31b1 : (t153 != 0) = true := bne_iff_ne.mpr c31
                 simp only [Option.some.injEq, Prod.mk.injEq] at H
                 obtain ⟨rfl, rfl⟩ := H
                 obtain ⟨Ao33, co33, eo33⟩ := Kd.R_slice HO_16.out
                 subst eo33
                 go_wp2_with (first | (go_at_call 28; (with_reducible refine (spec_orderNumbers.calls kj19 x21_19 (⟨#[48]⟩ : ByteArray) t153 _ A30.out).mono ?_); rintro e w' ⟨rfl, ⟨nd, rfl⟩⟩; (try first | exact ⟨rfl, _, World.drewN_drewN _ _ _⟩ | exact ⟨rfl, _, Eq.trans (World.drewN_drewN _ _ _) (congrArg (World.drewN _) (Nat.add_assoc _ _ _))⟩)))
                 repeat (go_quiet (first | (go_at_call 28; (with_reducible refine (spec_orderNumbers.calls kj19 x21_19 (⟨#[48]⟩ : ByteArray) t153 _ A30.out).mono ?_); rintro e w' ⟨rfl, ⟨nd, rfl⟩⟩; (try first | exact ⟨rfl, _, World.drewN_drewN _ _ _⟩ | exact ⟨rfl, _, Eq.trans (World.drewN_drewN _ _ _) (congrArg (World.drewN _) (Nat.add_assoc _ _ _))⟩))); try go_wp2_with (first | (go_at_call 28; (with_reducible refine (spec_orderNumbers.calls kj19 x21_19 (⟨#[48]⟩ : ByteArray) t153 _ A30.out).mono ?_); rintro e w' ⟨rfl, ⟨nd, rfl⟩⟩; (try first | exact ⟨rfl, _, World.drewN_drewN _ _ _⟩ | exact ⟨rfl, _, Eq.trans (World.drewN_drewN _ _ _) (congrArg (World.drewN _) (Nat.add_assoc _ _ _))⟩))))
                 go_ret2
                 exact ⟨by first | rfl | (simp [errW_none, errW_some] <;> rfl) | (simp [*, errW_none, errW_some] <;> rfl) | (simp [bne_nil_]; done), by repeat (first | (with_reducible first | exact HB.out | apply below_alloc | apply pw_below_drewN | apply below_drew1) | exact HB.out)⟩
         · rw [if_neg c19] at H
           have c19b0 : decide (x20_3 < a3) = false := decide_eq_false c19
           clear c19
           have HC34 := Aside0.mk H
           clear H
           go_upto_region 18 with (fail)
           repeat (go_quiet (fail); go_upto_region 18 with (fail))
           go_cut [89] (fun v89 wc => ∃ (kq : Nat) (x89_33 : Bool), v89 = .bool x89_33 ∧ Aside0 (spec_Precedence.j4 kq t135 t143 x89_33 = some (r1, r2)) ∧ Aside0 (kq ≤ k3) ∧ Aside0 (Kd.R Kd.string 9 wc w.heap.size (fun k_ => some k_ ≠ (v148 : Value).ownBlock) v140 t135) ∧ Aside0 (Kd.R Kd.string 9 wc w.heap.size (fun k_ => some k_ ≠ (v140 : Value).ownBlock) v148 t143) ∧ Aside0 (Below w.heap.size w wc))
           case first =>
            have H := HC34.out
            clear HC34
            by_cases c35 : (t135.length : Int) = 0
            · rw [if_pos c35] at H
              have c35b0 : ((t135.length : Int) == 0) = true := beq_iff_eq.mpr c35
              have c35b1 : ((t135.length : Int) != 0) = false := bne_eq_false_iff_eq.mpr c35
              clear c35
              (first | rw [c35b0] | (simp only [i64_w, i32_w]; rw [c35b0]) | skip)
              have H' := Aside0.mk H
              clear H
              obtain ⟨Ao36, co36, eo36⟩ := Kd.R_slice HO_13.out
              subst eo36
              go_wp2
              repeat (go_quiet (fail); try go_wp2)
              go_meet
              case rel => exact ⟨_, (true), (by first | rfl | (simp; done) | (simp [*]; done) | (simp [bne_nil_]; done)), H', ⟨by have := HJ5.out; have := HJ13.out; have := HK3.out; first | omega | exact Nat.le_refl _⟩, ⟨by (with_reducible repeat (first | apply Kd.R_alloc | apply Kd.R_drewN | apply Kd.R_drew)); exact Kd.R_mono HO_13.out (fun _ hk => hk.2.2)⟩, ⟨by (with_reducible repeat (first | apply Kd.R_alloc | apply Kd.R_drewN | apply Kd.R_drew)); exact Kd.R_mono HO_17.out (fun _ hk => hk.2.1)⟩, ⟨by repeat (first | (with_reducible first | exact HB.out | apply below_alloc | apply pw_below_drewN | apply below_drew1) | exact HB.out)⟩⟩
            · rw [if_neg c35] at H
              have c35b0 : ((t135.length : Int) == 0) = false := beq_eq_false_iff_ne.mpr c35
              have c35b1 : ((t135.length : Int) != 0) = true := bne_iff_ne.mpr c35
              have c35b2 : ¬ (t135 = []) := fun h_ => c35 (by rw [h_]; rfl)
              (first | rw [c35b0] | (simp only [i64_w, i32_w]; rw [c35b0]) | skip)
              have H' := Aside0.mk H
              clear H
              obtain ⟨Ao37, co37, eo37⟩ := Kd.R_slice HO_13.out
              subst eo37
              obtain ⟨Ao38, co38, eo38⟩ := Kd.R_slice HO_17.out
              subst eo38
              go_wp2
              repeat (go_quiet (fail); try go_wp2)
              go_meet
              case rel => exact ⟨_, (((t143.length : Int) == 0)), (by first | rfl | (simp; done) | (simp [*]; done) | (simp [bne_nil_]; done)), H', ⟨by have := HJ5.out; have := HJ13.out; have := HK3.out; first | omega | exact Nat.le_refl _⟩, ⟨by (with_reducible repeat (first | apply Kd.R_alloc | apply Kd.R_drewN | apply Kd.R_drew)); exact Kd.R_mono HO_13.out (fun _ hk => hk.2.2)⟩, ⟨by (with_reducible repeat (first | apply Kd.R_alloc | apply Kd.R_drewN | apply Kd.R_drew)); exact Kd.R_mono HO_17.out (fun _ hk => hk.2.1)⟩, ⟨by repeat (first | (with_reducible first | exact HB.out | apply below_alloc | apply pw_below_drewN | apply below_drew1) | exact HB.out)⟩⟩
           case rest =>
            clear HC34
            try clear c1
            try clear p1
            try clear q1
            try clear hx1
            try clear c2
            try clear p2
            try clear c3
            try clear p6
            try clear c7
            try clear c13
            try clear p15
            try clear q15
            try clear hx15
            try clear c17
            try clear c18
            try clear c19
            try clear c19b0
            try clear c22
            try clear c22b0
            try clear c23
            try clear c23b0
            try clear c24
            try clear c24b0
            try clear c25
            try clear c25b0
            try clear c27
            try clear c27b0
            try clear c27b1
            try clear c31
            try clear c31b0
            try clear c31b1
            try clear c35
            try clear c35b0
            try clear c35b1
            try clear c35b2
            try clear hx150_0
            try clear hx151_0
            try clear p1
            try clear p15
            try clear p150
            try clear p151
            try clear p2
            try clear q1
            try clear q15
            try clear q150
            try clear q151
            obtain ⟨kq, x89_33, rfl, HA, HJ33, HO_13, HO_17, HB⟩ := hcut
            cases kq with
            | zero => exact absurd HA.out (by simp [spec_Precedence.j4])
            | succ kj33 =>
             have H := HA.out
             clear HA
             simp only [spec_Precedence.j4] at H
             by_cases c39 : x89_33 = true
             · subst c39
               have H1 : ((spec_orderInts.f (mn (t143.length : Int) 1) (mn (t135.length : Int) 1)).bind fun t154 => (some (t154, true))) = some (r1, r2) := by rw [if_pos rfl] at H; exact H
               clear H
               have H := H1
               clear H1
               obtain ⟨ji40, hji40⟩ : ∃ j_ : Int, (mn (t143.length : Int) 1) = j_ := ⟨_, rfl⟩
               replace H : ((spec_orderInts.f (ji40) (mn (t135.length : Int) 1)).bind fun t154 => (some (t154, true))) = some (r1, r2) := by first | (rw [hji40] at H; exact H) | (simp only [hji40] at H ⊢; exact H)
               have hji40_ : (if 1 < (t143.length : Int) then 1 else (t143.length : Int)) = ji40 := hji40
               obtain ⟨ji41, hji41⟩ : ∃ j_ : Int, (mn (t135.length : Int) 1) = j_ := ⟨_, rfl⟩
               replace H : ((spec_orderInts.f (ji40) (ji41)).bind fun t154 => (some (t154, true))) = some (r1, r2) := by first | (rw [hji41] at H; exact H) | (simp only [hji41] at H ⊢; exact H)
               have hji41_ : (if 1 < (t135.length : Int) then 1 else (t135.length : Int)) = ji41 := hji41
               replace H := Option.bind_eq_some_iff.mp H
               obtain ⟨t154, A420, H⟩ := H
               replace H : (some (t154, true)) = some (r1, r2) := H
               have A42 := Aside0.mk A420
               clear A420
               simp only [Option.some.injEq, Prod.mk.injEq] at H
               obtain ⟨rfl, rfl⟩ := H
               obtain ⟨Ao43, co43, eo43⟩ := Kd.R_slice HO_17.out
               subst eo43
               obtain ⟨Ao44, co44, eo44⟩ := Kd.R_slice HO_13.out
               subst eo44
               go_wp2_with (first | (go_at_call 29; (with_reducible refine (spec_orderInts.calls ji40 ji41 t154 _ A42.out).mono ?_); rintro e w' ⟨rfl, ⟨nd, rfl⟩⟩; (try first | exact ⟨rfl, _, World.drewN_drewN _ _ _⟩ | exact ⟨rfl, _, Eq.trans (World.drewN_drewN _ _ _) (congrArg (World.drewN _) (Nat.add_assoc _ _ _))⟩)))
               repeat (go_quiet (first | (go_at_call 29; (with_reducible refine (spec_orderInts.calls ji40 ji41 t154 _ A42.out).mono ?_); rintro e w' ⟨rfl, ⟨nd, rfl⟩⟩; (try first | exact ⟨rfl, _, World.drewN_drewN _ _ _⟩ | exact ⟨rfl, _, Eq.trans (World.drewN_drewN _ _ _) (congrArg (World.drewN _) (Nat.add_assoc _ _ _))⟩))); try go_wp2_with (first | (go_at_call 29; (with_reducible refine (spec_orderInts.calls ji40 ji41 t154 _ A42.out).mono ?_); rintro e w' ⟨rfl, ⟨nd, rfl⟩⟩; (try first | exact ⟨rfl, _, World.drewN_drewN _ _ _⟩ | exact ⟨rfl, _, Eq.trans (World.drewN_drewN _ _ _) (congrArg (World.drewN _) (Nat.add_assoc _ _ _))⟩))))
               go_ret2
               exact ⟨by first | rfl | (simp [errW_none, errW_some] <;> rfl) | (simp only [← hji40, ← hji41]; first | rfl | (simp [errW_none, errW_some] <;> rfl)) | (simp [*, errW_none, errW_some] <;> rfl) | (simp [bne_nil_]; done), by repeat (first | (with_reducible first | exact HB.out | apply below_alloc | apply pw_below_drewN | apply below_drew1) | exact HB.out)⟩
             · replace c39 := Bool.eq_false_iff.mpr c39
               subst c39
               have H1 : (spec_Precedence.l1 kj33 t135 t143 0) = some (r1, r2) := by rw [if_neg (show ¬ (false = true) by decide)] at H; exact H
               clear H
               have H := H1
               clear H1
               have H' := Aside0.mk H
               clear H
               go_wp2
               repeat (go_quiet (fail); try go_wp2)
               go_loopg [24] kj33 (fun kq v24 w' => ∃ (x24_5 : Int), v24 = .int .i64 x24_5 ∧ Aside0 (spec_Precedence.l1 kq t135 t143 x24_5 = some (r1, r2)) ∧ Aside0 (kq ≤ kj33) ∧ Aside0 (Kd.R Kd.string 9 w' w.heap.size (fun k_ => some k_ ≠ (v148 : Value).ownBlock) v140 t135) ∧ Aside0 (Kd.R Kd.string 9 w' w.heap.size (fun k_ => some k_ ≠ (v140 : Value).ownBlock) v148 t143) ∧ Aside0 (Below w.heap.size w w'))
               case atStart => exact ⟨(0), (by first | rfl | (simp; done) | (simp [*]; done) | (simp [bne_nil_]; done)), H', ⟨Nat.le_refl _⟩, ⟨by (with_reducible repeat (first | apply Kd.R_alloc | apply Kd.R_drewN | apply Kd.R_drew)); exact HO_13.out⟩, ⟨by (with_reducible repeat (first | apply Kd.R_alloc | apply Kd.R_drewN | apply Kd.R_drew)); exact HO_17.out⟩, ⟨by repeat (first | (with_reducible first | exact HB.out | apply below_alloc | apply pw_below_drewN | apply below_drew1) | exact HB.out)⟩⟩
               case round =>
                clear H'
                try clear c1
                try clear p1
                try clear q1
                try clear hx1
                try clear c2
                try clear p2
                try clear c3
                try clear p6
                try clear c7
                try clear c13
                try clear p15
                try clear q15
                try clear hx15
                try clear c17
                try clear c18
                try clear c19
                try clear c19b0
                try clear c22
                try clear c22b0
                try clear c23
                try clear c23b0
                try clear c24
                try clear c24b0
                try clear c25
                try clear c25b0
                try clear c27
                try clear c27b0
                try clear c27b1
                try clear c31
                try clear c31b0
                try clear c31b1
                try clear c35
                try clear c35b0
                try clear c35b1
                try clear c35b2
                try clear c39
                try clear hx150_0
                try clear hx151_0
                try clear p1
                try clear p15
                try clear p150
                try clear p151
                try clear p2
                try clear p6
                try clear q1
                try clear q15
                try clear q150
                try clear q151
                obtain ⟨x24_5, rfl, HA, HK5, HO_13, HO_17, HB⟩ := hrel
                cases gk with
                | zero => exact absurd HA.out (by simp [spec_Precedence.l1])
                | succ k5 =>
                 have H := HA.out
                 clear HA
                 simp only [spec_Precedence.l1] at H
                 have HC45 := Aside0.mk H
                 clear H
                 go_upto_region 21 with (fail)
                 repeat (go_quiet (fail); go_upto_region 21 with (fail))
                 go_cut [106] (fun v106 wc => ∃ (kq : Nat) (x106_44 : Bool), v106 = .bool x106_44 ∧ Aside0 (spec_Precedence.j6 kq t135 t143 x24_5 x106_44 = some (r1, r2)) ∧ Aside0 (kq ≤ k5) ∧ Aside0 (Kd.R Kd.string 9 wc w.heap.size (fun k_ => some k_ ≠ (v148 : Value).ownBlock) v140 t135) ∧ Aside0 (Kd.R Kd.string 9 wc w.heap.size (fun k_ => some k_ ≠ (v140 : Value).ownBlock) v148 t143) ∧ Aside0 (Below w.heap.size w wc))
                 case first =>
                  have H := HC45.out
                  clear HC45
                  by_cases c46 : x24_5 < (t135.length : Int)
                  · rw [if_pos c46] at H
                    have c46b0 : decide (x24_5 < (t135.length : Int)) = true := decide_eq_true c46
                    clear c46
                    (first | rw [c46b0] | (simp only [i64_w, i32_w]; rw [c46b0]) | skip)
                    have H' := Aside0.mk H
                    clear H
                    obtain ⟨Ao47, co47, eo47⟩ := Kd.R_slice HO_13.out
                    subst eo47
                    obtain ⟨Ao48, co48, eo48⟩ := Kd.R_slice HO_17.out
                    subst eo48
                    go_wp2
                    repeat (go_quiet (fail); try go_wp2)
                    go_meet
                    case rel => exact ⟨_, (decide (x24_5 < (t143.length : Int))), (by first | rfl | (simp; done) | (simp [*]; done) | (simp [bne_nil_]; done)), H', ⟨by have := HJ5.out; have := HJ13.out; have := HK3.out; have := HJ33.out; have := HK5.out; first | omega | exact Nat.le_refl _⟩, ⟨by (with_reducible repeat (first | apply Kd.R_alloc | apply Kd.R_drewN | apply Kd.R_drew)); exact HO_13.out⟩, ⟨by (with_reducible repeat (first | apply Kd.R_alloc | apply Kd.R_drewN | apply Kd.R_drew)); exact HO_17.out⟩, ⟨by repeat (first | (with_reducible first | exact HB.out | apply below_alloc | apply pw_below_drewN | apply below_drew1) | exact HB.out)⟩⟩
                  · rw [if_neg c46] at H
                    have c46b0 : decide (x24_5 < (t135.length : Int)) = false := decide_eq_false c46
                    clear c46
                    (first | rw [c46b0] | (simp only [i64_w, i32_w]; rw [c46b0]) | skip)
                    have H' := Aside0.mk H
                    clear H
                    obtain ⟨Ao49, co49, eo49⟩ := Kd.R_slice HO_13.out
                    subst eo49
                    go_wp2
                    repeat (go_quiet (fail); try go_wp2)
                    go_meet
                    case rel => exact ⟨_, (false), (by first | rfl | (simp; done) | (simp [*]; done) | (simp [bne_nil_]; done)), H', ⟨by have := HJ5.out; have := HJ13.out; have := HK3.out; have := HJ33.out; have := HK5.out; first | omega | exact Nat.le_refl _⟩, ⟨by (with_reducible repeat (first | apply Kd.R_alloc | apply Kd.R_drewN | apply Kd.R_drew)); exact HO_13.out⟩, ⟨by (with_reducible repeat (first | apply Kd.R_alloc | apply Kd.R_drewN | apply Kd.R_drew)); exact HO_17.out⟩, ⟨by repeat (first | (with_reducible first | exact HB.out | apply below_alloc | apply pw_below_drewN | apply below_drew1) | exact HB.out)⟩⟩
                 case rest =>
                  clear HC45
                  try clear c1
                  try clear p1
                  try clear q1
                  try clear hx1
                  try clear c2
                  try clear p2
                  try clear c3
                  try clear c4
                  try clear p6
                  try clear c7
                  try clear c13
                  try clear p15
                  try clear q15
                  try clear hx15
                  try clear c17
                  try clear c18
                  try clear c19
                  try clear c19b0
                  try clear c22
                  try clear c22b0
                  try clear c23
                  try clear c23b0
                  try clear c24
                  try clear c24b0
                  try clear c25
                  try clear c25b0
                  try clear c27
                  try clear c27b0
                  try clear c27b1
                  try clear c31
                  try clear c31b0
                  try clear c31b1
                  try clear c35
                  try clear c35b0
                  try clear c35b1
                  try clear c35b2
                  try clear c39
                  try clear c46
                  try clear c46b0
                  try clear hx150_0
                  try clear hx151_0
                  try clear p1
                  try clear p15
                  try clear p150
                  try clear p151
                  try clear p2
                  try clear p6
                  try clear q1
                  try clear q15
                  try clear q150
                  try clear q151
                  obtain ⟨kq, x106_44, rfl, HA, HJ44, HO_13, HO_17, HB⟩ := hcut
                  cases kq with
                  | zero => exact absurd HA.out (by simp [spec_Precedence.j6])
                  | succ kj44 =>
                   have H := HA.out
                   clear HA
                   simp only [spec_Precedence.j6] at H
                   by_cases c50 : x106_44 = true
                   · subst c50
                     have H1 : (if 0 ≤ x24_5 then (if x24_5 < (t135.length : Int) then (if x24_5 < (t143.length : Int) then ((spec_pageOne.f kj44 (rdOf ByteArray.empty t135 x24_5) (rdOf ByteArray.empty t143 x24_5)).bind fun t157 => (if t157 = 0 then (spec_Precedence.l1 kj44 t135 t143 (wrap64 (x24_5 + 1))) else (some (t157, true)))) else (none)) else (none)) else (none)) = some (r1, r2) := by rw [if_pos rfl] at H; exact H
                     clear H
                     have H := H1
                     clear H1
                     by_cases c51 : 0 ≤ x24_5
                     · rw [if_pos c51] at H
                       have c51b0 : decide (0 ≤ x24_5) = true := decide_eq_true c51
                       clear c51
                       by_cases c52 : x24_5 < (t135.length : Int)
                       · rw [if_pos c52] at H
                         have c52b0 : decide (x24_5 < (t135.length : Int)) = true := decide_eq_true c52
                         clear c52
                         by_cases c53 : x24_5 < (t143.length : Int)
                         · rw [if_pos c53] at H
                           have c53b0 : decide (x24_5 < (t143.length : Int)) = true := decide_eq_true c53
                           clear c53
                           replace H := Option.bind_eq_some_iff.mp H
                           obtain ⟨t157, A540, H⟩ := H
                           replace H : (if t157 = 0 then (spec_Precedence.l1 kj44 t135 t143 (wrap64 (x24_5 + 1))) else (some (t157, true))) = some (r1, r2) := H
                           have A54 := Aside0.mk A540
                           clear A540
                           by_cases c55 : t157 = 0
                           · rw [if_pos c55] at H
                             have c55b0 : (t157 == 0) = true := beq_iff_eq.mpr c55
                             have c55b1 : (t157 != 0) = false := bne_eq_false_iff_eq.mpr c55
                             clear c55
                             have H' := Aside0.mk H
                             clear H
                             obtain ⟨Ao56, co56, eo56⟩ := Kd.R_slice HO_13.out
                             subst eo56
                             have p155 : 0 ≤ (x24_5 : Int) := of_decide_eq_true (by first | (with_reducible assumption) | assumption)
                             have q155 : x24_5 < (t135.length : Int) := of_decide_eq_true (by first | (with_reducible assumption) | assumption)
                             obtain ⟨ad155, e155, hx155_0⟩ := Kd.at_string (Kd.R_reads' HO_13.out).2.2 x24_5 p155 q155
                             cases e155
                             replace p155 := eq_true p155
                             replace q155 := eq_true q155
                             obtain ⟨Ao57, co57, eo57⟩ := Kd.R_slice HO_17.out
                             subst eo57
                             have p156 : 0 ≤ (x24_5 : Int) := of_decide_eq_true (by first | (with_reducible assumption) | assumption)
                             have q156 : x24_5 < (t143.length : Int) := of_decide_eq_true (by first | (with_reducible assumption) | assumption)
                             obtain ⟨ad156, e156, hx156_0⟩ := Kd.at_string (Kd.R_reads' HO_17.out).2.2 x24_5 p156 q156
                             cases e156
                             replace p156 := eq_true p156
                             replace q156 := eq_true q156
                             go_wp2_with (first | (go_at_call 30; (with_reducible refine (spec_pageOne.calls kj44 (rdOf ByteArray.empty t135 x24_5) (rdOf ByteArray.empty t143 x24_5) t157 _ A54.out).mono ?_); rintro e w' ⟨rfl, ⟨nd, rfl⟩⟩; (try first | exact ⟨rfl, _, World.drewN_drewN _ _ _⟩ | exact ⟨rfl, _, Eq.trans (World.drewN_drewN _ _ _) (congrArg (World.drewN _) (Nat.add_assoc _ _ _))⟩)))
                             repeat (go_quiet (first | (go_at_call 30; (with_reducible refine (spec_pageOne.calls kj44 (rdOf ByteArray.empty t135 x24_5) (rdOf ByteArray.empty t143 x24_5) t157 _ A54.out).mono ?_); rintro e w' ⟨rfl, ⟨nd, rfl⟩⟩; (try first | exact ⟨rfl, _, World.drewN_drewN _ _ _⟩ | exact ⟨rfl, _, Eq.trans (World.drewN_drewN _ _ _) (congrArg (World.drewN _) (Nat.add_assoc _ _ _))⟩))); try go_wp2_with (first | (go_at_call 30; (with_reducible refine (spec_pageOne.calls kj44 (rdOf ByteArray.empty t135 x24_5) (rdOf ByteArray.empty t143 x24_5) t157 _ A54.out).mono ?_); rintro e w' ⟨rfl, ⟨nd, rfl⟩⟩; (try first | exact ⟨rfl, _, World.drewN_drewN _ _ _⟩ | exact ⟨rfl, _, Eq.trans (World.drewN_drewN _ _ _) (congrArg (World.drewN _) (Nat.add_assoc _ _ _))⟩))))
                             go_roundg kj44
                             case measure => have := HJ5.out; have := HJ13.out; have := HK3.out; have := HJ33.out; have := HK5.out; have := HJ44.out; omega
                             case rel => exact ⟨(wrap64 (x24_5 + 1)), (by first | rfl | (simp; done) | (simp [*]; done) | (simp [bne_nil_]; done)), H', ⟨by have := HJ5.out; have := HJ13.out; have := HK3.out; have := HJ33.out; have := HK5.out; have := HJ44.out; omega⟩, ⟨by (with_reducible repeat (first | apply Kd.R_alloc | apply Kd.R_drewN | apply Kd.R_drew)); exact HO_13.out⟩, ⟨by (with_reducible repeat (first | apply Kd.R_alloc | apply Kd.R_drewN | apply Kd.R_drew)); exact HO_17.out⟩, ⟨by repeat (first | (with_reducible first | exact HB.out | apply below_alloc | apply pw_below_drewN | apply below_drew1) | exact HB.out)⟩⟩
                           · rw [if_neg c55] at H
                             have c55b0 : (t157 == 0) = false := beq_eq_false_iff_ne.mpr c55
                             have c55b1 : (t157 != 0) = true := bne_iff_ne.mpr c55
                             simp only [Option.some.injEq, Prod.mk.injEq] at H
                             obtain ⟨rfl, rfl⟩ := H
                             obtain ⟨Ao58, co58, eo58⟩ := Kd.R_slice HO_13.out
                             subst eo58
                             have p155 : 0 ≤ (x24_5 : Int) := of_decide_eq_true (by first | (with_reducible assumption) | assumption)
                             have q155 : x24_5 < (t135.length : Int) := of_decide_eq_true (by first | (with_reducible assumption) | assumption)
                             obtain ⟨ad155, e155, hx155_0⟩ := Kd.at_string (Kd.R_reads' HO_13.out).2.2 x24_5 p155 q155
                             cases e155
                             replace p155 := eq_true p155
                             replace q155 := eq_true q155
                             obtain ⟨Ao59, co59, eo59⟩ := Kd.R_slice HO_17.out
                             subst eo59
                             have p156 : 0 ≤ (x24_5 : Int) := of_decide_eq_true (by first | (with_reducible assumption) | assumption)
                             have q156 : x24_5 < (t143.length : Int) := of_decide_eq_true (by first | (with_reducible assumption) | assumption)
                             obtain ⟨ad156, e156, hx156_0⟩ := Kd.at_string (Kd.R_reads' HO_17.out).2.2 x24_5 p156 q156
                             cases e156
                             replace p156 := eq_true p156
                             replace q156 := eq_true q156
                             go_wp2_with (first | (go_at_call 30; (with_reducible refine (spec_pageOne.calls kj44 (rdOf ByteArray.empty t135 x24_5) (rdOf ByteArray.empty t143 x24_5) t157 _ A54.out).mono ?_); rintro e w' ⟨rfl, ⟨nd, rfl⟩⟩; (try first | exact ⟨rfl, _, World.drewN_drewN _ _ _⟩ | exact ⟨rfl, _, Eq.trans (World.drewN_drewN _ _ _) (congrArg (World.drewN _) (Nat.add_assoc _ _ _))⟩)))
                             repeat (go_quiet (first | (go_at_call 30; (with_reducible refine (spec_pageOne.calls kj44 (rdOf ByteArray.empty t135 x24_5) (rdOf ByteArray.empty t143 x24_5) t157 _ A54.out).mono ?_); rintro e w' ⟨rfl, ⟨nd, rfl⟩⟩; (try first | exact ⟨rfl, _, World.drewN_drewN _ _ _⟩ | exact ⟨rfl, _, Eq.trans (World.drewN_drewN _ _ _) (congrArg (World.drewN _) (Nat.add_assoc _ _ _))⟩))); try go_wp2_with (first | (go_at_call 30; (with_reducible refine (spec_pageOne.calls kj44 (rdOf ByteArray.empty t135 x24_5) (rdOf ByteArray.empty t143 x24_5) t157 _ A54.out).mono ?_); rintro e w' ⟨rfl, ⟨nd, rfl⟩⟩; (try first | exact ⟨rfl, _, World.drewN_drewN _ _ _⟩ | exact ⟨rfl, _, Eq.trans (World.drewN_drewN _ _ _) (congrArg (World.drewN _) (Nat.add_assoc _ _ _))⟩))))
                             go_ret2
                             exact ⟨by first | rfl | (simp [errW_none, errW_some] <;> rfl) | (simp [*, errW_none, errW_some] <;> rfl) | (simp [bne_nil_]; done), by repeat (first | (with_reducible first | exact HB.out | apply below_alloc | apply pw_below_drewN | apply below_drew1) | exact HB.out)⟩
                         · rw [if_neg c53] at H
                           exact absurd H (by simp)
                       · rw [if_neg c52] at H
                         exact absurd H (by simp)
                     · rw [if_neg c51] at H
                       exact absurd H (by simp)
                   · replace c50 := Bool.eq_false_iff.mpr c50
                     subst c50
                     have H1 : ((spec_orderInts.f (t135.length : Int) (t143.length : Int)).bind fun t158 => (some (t158, true))) = some (r1, r2) := by rw [if_neg (show ¬ (false = true) by decide)] at H; exact H
                     clear H
                     have H := H1
                     clear H1
                     replace H := Option.bind_eq_some_iff.mp H
                     obtain ⟨t158, A600, H⟩ := H
                     replace H : (some (t158, true)) = some (r1, r2) := H
                     have A60 := Aside0.mk A600
                     clear A600
                     simp only [Option.some.injEq, Prod.mk.injEq] at H
                     obtain ⟨rfl, rfl⟩ := H
                     obtain ⟨Ao61, co61, eo61⟩ := Kd.R_slice HO_13.out
                     subst eo61
                     obtain ⟨Ao62, co62, eo62⟩ := Kd.R_slice HO_17.out
                     subst eo62
                     go_wp2_with (first | (go_at_call 29; (with_reducible refine (spec_orderInts.calls (t135.length : Int) (t143.length : Int) t158 _ A60.out).mono ?_); rintro e w' ⟨rfl, ⟨nd, rfl⟩⟩; (try first | exact ⟨rfl, _, World.drewN_drewN _ _ _⟩ | exact ⟨rfl, _, Eq.trans (World.drewN_drewN _ _ _) (congrArg (World.drewN _) (Nat.add_assoc _ _ _))⟩)))
                     repeat (go_quiet (first | (go_at_call 29; (with_reducible refine (spec_orderInts.calls (t135.length : Int) (t143.length : Int) t158 _ A60.out).mono ?_); rintro e w' ⟨rfl, ⟨nd, rfl⟩⟩; (try first | exact ⟨rfl, _, World.drewN_drewN _ _ _⟩ | exact ⟨rfl, _, Eq.trans (World.drewN_drewN _ _ _) (congrArg (World.drewN _) (Nat.add_assoc _ _ _))⟩))); try go_wp2_with (first | (go_at_call 29; (with_reducible refine (spec_orderInts.calls (t135.length : Int) (t143.length : Int) t158 _ A60.out).mono ?_); rintro e w' ⟨rfl, ⟨nd, rfl⟩⟩; (try first | exact ⟨rfl, _, World.drewN_drewN _ _ _⟩ | exact ⟨rfl, _, Eq.trans (World.drewN_drewN _ _ _) (congrArg (World.drewN _) (Nat.add_assoc _ _ _))⟩))))
                     go_ret2
                     exact ⟨by first | rfl | (simp [errW_none, errW_some] <;> rfl) | (simp [*, errW_none, errW_some] <;> rfl) | (simp [bne_nil_]; done), by repeat (first | (with_reducible first | exact HB.out | apply below_alloc | apply pw_below_drewN | apply below_drew1) | exact HB.out)⟩

/-! ### spec_BuildOrder: function 14 -/
def spec_BuildOrder.f (k : Nat) (a0 : ByteArray) (a1 : ByteArray) : Option (Int × Bool) := (spec_CoreOf.f k a0 3 3).bind fun bt159 => ((spec_CoreOf.f k a1 3 3).bind fun bt167 => (if bt159.2.2.2 = true then (if bt167.2.2.2 = true then (if bt159.2.2.1.toList = ([] : List UInt8) then ((spec_orderInts.f (mn (bt159.2.2.1.size : Int) 1) (mn (bt167.2.2.1.size : Int) 1)).bind fun t175 => (some (t175, true))) else (if bt167.2.2.1.toList = ([] : List UInt8) then ((spec_orderInts.f (mn (bt159.2.2.1.size : Int) 1) (mn (bt167.2.2.1.size : Int) 1)).bind fun t176 => (some (t176, true))) else (some (0, false)))) else (some (0, false))) else (some (0, false))))
theorem spec_BuildOrder.mono : ∀ a0 a1 k, LeO (spec_BuildOrder.f k a0 a1) (spec_BuildOrder.f (k + 1) a0 a1) := by
 intro a0 a1 k
 unfold spec_BuildOrder.f
 repeat' first
  | (with_reducible exact spec_CoreOf.mono _ _ _ _)
  | (with_reducible exact LeO.refl _)
  | (with_reducible exact LeO.none _)
  | (with_reducible refine LeO.ite ?_ ?_)
  | (with_reducible refine LeO.bind ?_ (fun _ => ?_))
  | exact spec_CoreOf.mono _ _ _ _
  | exact LeO.none _
  | refine LeO.ite ?_ ?_
  | refine LeO.bind ?_ (fun _ => ?_)
set_option maxHeartbeats 8000000 in
set_option maxRecDepth 100000 in
theorem spec_BuildOrder.calls (k : Nat) (a0 : ByteArray) (a1 : ByteArray) (r1 : Int) (r2 : Bool) (w : World) (h : spec_BuildOrder.f k a0 a1 = some (r1, r2)) :
 Calls Tryz.prog 14 #[.string a0, .string a1] w fun e w' => e = .returned (.tuple #[.int .i64 r1, .bool r2]) ∧ Below w.heap.size w w' := by
 have HB := Aside0.mk (Below.refl w.heap.size w)
 have H : ((spec_CoreOf.f k a0 3 3).bind fun bt159 => ((spec_CoreOf.f k a1 3 3).bind fun bt167 => (if bt159.2.2.2 = true then (if bt167.2.2.2 = true then (if bt159.2.2.1.toList = ([] : List UInt8) then ((spec_orderInts.f (mn (bt159.2.2.1.size : Int) 1) (mn (bt167.2.2.1.size : Int) 1)).bind fun t175 => (some (t175, true))) else (if bt167.2.2.1.toList = ([] : List UInt8) then ((spec_orderInts.f (mn (bt159.2.2.1.size : Int) 1) (mn (bt167.2.2.1.size : Int) 1)).bind fun t176 => (some (t176, true))) else (some (0, false)))) else (some (0, false))) else (some (0, false))))) = some (r1, r2) := h
 clear h
 replace H := Option.bind_eq_some_iff.mp H
 obtain ⟨⟨t159, t160, t161, t162⟩, A30, H⟩ := H
 replace H : ((spec_CoreOf.f k a1 3 3).bind fun bt167 => (if t162 = true then (if bt167.2.2.2 = true then (if t161.toList = ([] : List UInt8) then ((spec_orderInts.f (mn (t161.size : Int) 1) (mn (bt167.2.2.1.size : Int) 1)).bind fun t175 => (some (t175, true))) else (if bt167.2.2.1.toList = ([] : List UInt8) then ((spec_orderInts.f (mn (t161.size : Int) 1) (mn (bt167.2.2.1.size : Int) 1)).bind fun t176 => (some (t176, true))) else (some (0, false)))) else (some (0, false))) else (some (0, false)))) = some (r1, r2) := H
 have A3 := Aside0.mk A30
 clear A30
 replace H := Option.bind_eq_some_iff.mp H
 obtain ⟨⟨t167, t168, t169, t170⟩, A40, H⟩ := H
 replace H : (if t162 = true then (if t170 = true then (if t161.toList = ([] : List UInt8) then ((spec_orderInts.f (mn (t161.size : Int) 1) (mn (t169.size : Int) 1)).bind fun t175 => (some (t175, true))) else (if t169.toList = ([] : List UInt8) then ((spec_orderInts.f (mn (t161.size : Int) 1) (mn (t169.size : Int) 1)).bind fun t176 => (some (t176, true))) else (some (0, false)))) else (some (0, false))) else (some (0, false))) = some (r1, r2) := H
 have A4 := Aside0.mk A40
 clear A40
 by_cases c5 : t162 = true
 · subst c5
   have H1 : (if t170 = true then (if t161.toList = ([] : List UInt8) then ((spec_orderInts.f (mn (t161.size : Int) 1) (mn (t169.size : Int) 1)).bind fun t175 => (some (t175, true))) else (if t169.toList = ([] : List UInt8) then ((spec_orderInts.f (mn (t161.size : Int) 1) (mn (t169.size : Int) 1)).bind fun t176 => (some (t176, true))) else (some (0, false)))) else (some (0, false))) = some (r1, r2) := by rw [if_pos rfl] at H; exact H
   clear H
   have H := H1
   clear H1
   by_cases c6 : t170 = true
   · subst c6
     have H1 : (if t161.toList = ([] : List UInt8) then ((spec_orderInts.f (mn (t161.size : Int) 1) (mn (t169.size : Int) 1)).bind fun t175 => (some (t175, true))) else (if t169.toList = ([] : List UInt8) then ((spec_orderInts.f (mn (t161.size : Int) 1) (mn (t169.size : Int) 1)).bind fun t176 => (some (t176, true))) else (some (0, false)))) = some (r1, r2) := by rw [if_pos rfl] at H; exact H
     clear H
     have H := H1
     clear H1
     by_cases c7 : t161.toList = ([] : List UInt8)
     · rw [if_pos c7] at H
       have c7b0 : (t161.toList == ([] : List UInt8)) = true := beq_iff_eq.mpr c7
       have c7b1 : (t161.toList != ([] : List UInt8)) = false := bne_eq_false_iff_eq.mpr c7
       clear c7
       obtain ⟨ji8, hji8⟩ : ∃ j_ : Int, (mn (t161.size : Int) 1) = j_ := ⟨_, rfl⟩
       replace H : ((spec_orderInts.f (ji8) (mn (t169.size : Int) 1)).bind fun t175 => (some (t175, true))) = some (r1, r2) := by first | (rw [hji8] at H; exact H) | (simp only [hji8] at H ⊢; exact H)
       (try rw [hji8] at A3)
       (try rw [hji8] at A4)
       (try (have hji8h : ji8 ≤ 1 := by (rw [← hji8]; unfold mn; (repeat' split) <;> omega)))
       (try (have hji8g : ji8 ≤ 64 := by omega))
       (try (have hji8l : 0 ≤ ji8 := by (rw [← hji8]; unfold mn; (repeat' split) <;> omega)))
       (try (have hji8m : 0 ≤ ji8 := by omega))
       have hji8_ : (if 1 < (t161.size : Int) then 1 else (t161.size : Int)) = ji8 := hji8
       obtain ⟨ji9, hji9⟩ : ∃ j_ : Int, (mn (t169.size : Int) 1) = j_ := ⟨_, rfl⟩
       replace H : ((spec_orderInts.f (ji8) (ji9)).bind fun t175 => (some (t175, true))) = some (r1, r2) := by first | (rw [hji9] at H; exact H) | (simp only [hji9] at H ⊢; exact H)
       (try rw [hji9] at A3)
       (try rw [hji9] at A4)
       (try (have hji9h : ji9 ≤ 1 := by (rw [← hji9]; unfold mn; (repeat' split) <;> omega)))
       (try (have hji9g : ji9 ≤ 64 := by omega))
       (try (have hji9l : 0 ≤ ji9 := by (rw [← hji9]; unfold mn; (repeat' split) <;> omega)))
       (try (have hji9m : 0 ≤ ji9 := by omega))
       have hji9_ : (if 1 < (t169.size : Int) then 1 else (t169.size : Int)) = ji9 := hji9
       replace H := Option.bind_eq_some_iff.mp H
       obtain ⟨t175, A100, H⟩ := H
       replace H : (some (t175, true)) = some (r1, r2) := H
       have A10 := Aside0.mk A100
       clear A100
       simp only [Option.some.injEq, Prod.mk.injEq] at H
       obtain ⟨rfl, rfl⟩ := H
       go_enter Tryz.func14, Tryz.ntmps14
       go_wp2_with (first | ((with_reducible refine gate_callee (f := 27) rfl ?_); refine goesL_ (some 16) rfl rfl Tryz.func27 (by kernel_rfl) rfl #[.string a0, .int .i64 3, .int .i64 3] rfl (by (try simp only [List.map_toArray, List.map_cons, List.map_nil]); first | done | rfl | (simp only [List.length_drop, List.length_take]; rfl)) ?_; (with_reducible refine (spec_CoreOf.calls k a0 3 3 t159 t160 t161 true _ A3.out).mono ?_); rintro e w11 ⟨v163, v165, rfl, ho0, ho1, hb⟩; refine ⟨_, rfl, ?_⟩; have n0_ := Aside0.mk (Kd.R_lower ho0 (below_size (by repeat (first | (with_reducible first | exact HB.out | apply below_alloc | apply pw_below_drewN | apply below_drew1) | exact HB.out)))); have n1_ := Aside0.mk (Kd.R_lower ho1 (below_size (by repeat (first | (with_reducible first | exact HB.out | apply below_alloc | apply pw_below_drewN | apply below_drew1) | exact HB.out)))); have n2_ := Aside0.mk (below_step (by repeat (first | (with_reducible first | exact HB.out | apply below_alloc | apply pw_below_drewN | apply below_drew1) | exact HB.out)) hb); clear HB; have HO164 := n0_; have HO166 := n1_; have HB := n2_; clear n0_ n1_ n2_; (try clear hb); (try clear hb2); (try clear hk); (try clear hi); (try clear ho0); (try clear ho1)) | ((with_reducible refine gate_callee (f := 27) rfl ?_); refine goesL_ (some 23) rfl rfl Tryz.func27 (by kernel_rfl) rfl #[.string a1, .int .i64 3, .int .i64 3] rfl (by (try simp only [List.map_toArray, List.map_cons, List.map_nil]); first | done | rfl | (simp only [List.length_drop, List.length_take]; rfl)) ?_; (with_reducible refine (spec_CoreOf.calls k a1 3 3 t167 t168 t169 true _ A4.out).mono ?_); rintro e w12 ⟨v171, v173, rfl, ho0, ho1, hb⟩; refine ⟨_, rfl, ?_⟩; have n0_ := Aside0.mk (Kd.R_mono (Kd.R_told (Kd.R_told (Kd.R_old (by (with_reducible repeat (first | apply Kd.R_alloc | apply Kd.R_drewN | apply Kd.R_drew)); exact HO164.out) hb) (Kd.R_base ho0)) (Kd.R_base ho1)) (fun _ h_ => h_.1)); have n1_ := Aside0.mk (Kd.R_mono (Kd.R_told (Kd.R_told (Kd.R_old (by (with_reducible repeat (first | apply Kd.R_alloc | apply Kd.R_drewN | apply Kd.R_drew)); exact HO166.out) hb) (Kd.R_base ho0)) (Kd.R_base ho1)) (fun _ h_ => h_.1)); have n2_ := Aside0.mk (Kd.R_lower (Kd.R_new' (Kd.R_new' ho0 (Kd.R_lt (by (with_reducible repeat (first | apply Kd.R_alloc | apply Kd.R_drewN | apply Kd.R_drew)); exact HO164.out))) (Kd.R_lt (by (with_reducible repeat (first | apply Kd.R_alloc | apply Kd.R_drewN | apply Kd.R_drew)); exact HO166.out))) (below_size (by repeat (first | (with_reducible first | exact HB.out | apply below_alloc | apply pw_below_drewN | apply below_drew1) | exact HB.out)))); have n3_ := Aside0.mk (Kd.R_lower (Kd.R_new' (Kd.R_new' ho1 (Kd.R_lt (by (with_reducible repeat (first | apply Kd.R_alloc | apply Kd.R_drewN | apply Kd.R_drew)); exact HO164.out))) (Kd.R_lt (by (with_reducible repeat (first | apply Kd.R_alloc | apply Kd.R_drewN | apply Kd.R_drew)); exact HO166.out))) (below_size (by repeat (first | (with_reducible first | exact HB.out | apply below_alloc | apply pw_below_drewN | apply below_drew1) | exact HB.out)))); have n4_ := Aside0.mk (below_step (by repeat (first | (with_reducible first | exact HB.out | apply below_alloc | apply pw_below_drewN | apply below_drew1) | exact HB.out)) hb); clear HO164; clear HO166; clear HB; have HO164 := n0_; have HO166 := n1_; have HO172 := n2_; have HO174 := n3_; have HB := n4_; clear n0_ n1_ n2_ n3_ n4_; (try clear hb); (try clear hb2); (try clear hk); (try clear hi); (try clear ho0); (try clear ho1)) | ((with_reducible refine gate_callee (f := 29) rfl ?_); refine goesL_ (some 48) rfl rfl Tryz.func29 (by kernel_rfl) rfl #[.int .i64 ji8, .int .i64 ji9] rfl (by (try simp only [List.map_toArray, List.map_cons, List.map_nil]); first | done | (simp only [hji8, hji9]; rfl) | rfl | (simp only [List.length_drop, List.length_take]; rfl)) ?_; (with_reducible refine (spec_orderInts.calls ji8 ji9 t175 _ A10.out).mono ?_); rintro e w' ⟨rfl, ⟨nd, rfl⟩⟩; refine ⟨_, rfl, ?_⟩))
       go_ret2
       exact ⟨by first | rfl | (simp [errW_none, errW_some] <;> rfl) | (simp only [← hji8, ← hji9]; first | rfl | (simp [errW_none, errW_some] <;> rfl)) | (simp [*, errW_none, errW_some] <;> rfl) | (simp [bne_nil_]; done), by repeat (first | (with_reducible first | exact HB.out | apply below_alloc | apply pw_below_drewN | apply below_drew1) | exact HB.out)⟩
     · rw [if_neg c7] at H
       have c7b0 : (t161.toList == ([] : List UInt8)) = false := beq_eq_false_iff_ne.mpr c7
       have c7b1 : (t161.toList != ([] : List UInt8)) = true := bne_iff_ne.mpr c7
       by_cases c13 : t169.toList = ([] : List UInt8)
       · rw [if_pos c13] at H
         have c13b0 : (t169.toList == ([] : List UInt8)) = true := beq_iff_eq.mpr c13
         have c13b1 : (t169.toList != ([] : List UInt8)) = false := bne_eq_false_iff_eq.mpr c13
         clear c13
         obtain ⟨ji14, hji14⟩ : ∃ j_ : Int, (mn (t161.size : Int) 1) = j_ := ⟨_, rfl⟩
         replace H : ((spec_orderInts.f (ji14) (mn (t169.size : Int) 1)).bind fun t176 => (some (t176, true))) = some (r1, r2) := by first | (rw [hji14] at H; exact H) | (simp only [hji14] at H ⊢; exact H)
         (try rw [hji14] at A3)
         (try rw [hji14] at A4)
         (try (have hji14h : ji14 ≤ 1 := by (rw [← hji14]; unfold mn; (repeat' split) <;> omega)))
         (try (have hji14g : ji14 ≤ 64 := by omega))
         (try (have hji14l : 0 ≤ ji14 := by (rw [← hji14]; unfold mn; (repeat' split) <;> omega)))
         (try (have hji14m : 0 ≤ ji14 := by omega))
         have hji14_ : (if 1 < (t161.size : Int) then 1 else (t161.size : Int)) = ji14 := hji14
         obtain ⟨ji15, hji15⟩ : ∃ j_ : Int, (mn (t169.size : Int) 1) = j_ := ⟨_, rfl⟩
         replace H : ((spec_orderInts.f (ji14) (ji15)).bind fun t176 => (some (t176, true))) = some (r1, r2) := by first | (rw [hji15] at H; exact H) | (simp only [hji15] at H ⊢; exact H)
         (try rw [hji15] at A3)
         (try rw [hji15] at A4)
         (try (have hji15h : ji15 ≤ 1 := by (rw [← hji15]; unfold mn; (repeat' split) <;> omega)))
         (try (have hji15g : ji15 ≤ 64 := by omega))
         (try (have hji15l : 0 ≤ ji15 := by (rw [← hji15]; unfold mn; (repeat' split) <;> omega)))
         (try (have hji15m : 0 ≤ ji15 := by omega))
         have hji15_ : (if 1 < (t169.size : Int) then 1 else (t169.size : Int)) = ji15 := hji15
         replace H := Option.bind_eq_some_iff.mp H
         obtain ⟨t176, A160, H⟩ := H
         replace H : (some (t176, true)) = some (r1, r2) := H
         have A16 := Aside0.mk A160
         clear A160
         simp only [Option.some.injEq, Prod.mk.injEq] at H
         obtain ⟨rfl, rfl⟩ := H
         go_enter Tryz.func14, Tryz.ntmps14
         go_wp2_with (first | ((with_reducible refine gate_callee (f := 27) rfl ?_); refine goesL_ (some 16) rfl rfl Tryz.func27 (by kernel_rfl) rfl #[.string a0, .int .i64 3, .int .i64 3] rfl (by (try simp only [List.map_toArray, List.map_cons, List.map_nil]); first | done | rfl | (simp only [List.length_drop, List.length_take]; rfl)) ?_; (with_reducible refine (spec_CoreOf.calls k a0 3 3 t159 t160 t161 true _ A3.out).mono ?_); rintro e w17 ⟨v163, v165, rfl, ho0, ho1, hb⟩; refine ⟨_, rfl, ?_⟩; have n0_ := Aside0.mk (Kd.R_lower ho0 (below_size (by repeat (first | (with_reducible first | exact HB.out | apply below_alloc | apply pw_below_drewN | apply below_drew1) | exact HB.out)))); have n1_ := Aside0.mk (Kd.R_lower ho1 (below_size (by repeat (first | (with_reducible first | exact HB.out | apply below_alloc | apply pw_below_drewN | apply below_drew1) | exact HB.out)))); have n2_ := Aside0.mk (below_step (by repeat (first | (with_reducible first | exact HB.out | apply below_alloc | apply pw_below_drewN | apply below_drew1) | exact HB.out)) hb); clear HB; have HO164 := n0_; have HO166 := n1_; have HB := n2_; clear n0_ n1_ n2_; (try clear hb); (try clear hb2); (try clear hk); (try clear hi); (try clear ho0); (try clear ho1)) | ((with_reducible refine gate_callee (f := 27) rfl ?_); refine goesL_ (some 23) rfl rfl Tryz.func27 (by kernel_rfl) rfl #[.string a1, .int .i64 3, .int .i64 3] rfl (by (try simp only [List.map_toArray, List.map_cons, List.map_nil]); first | done | rfl | (simp only [List.length_drop, List.length_take]; rfl)) ?_; (with_reducible refine (spec_CoreOf.calls k a1 3 3 t167 t168 t169 true _ A4.out).mono ?_); rintro e w18 ⟨v171, v173, rfl, ho0, ho1, hb⟩; refine ⟨_, rfl, ?_⟩; have n0_ := Aside0.mk (Kd.R_mono (Kd.R_told (Kd.R_told (Kd.R_old (by (with_reducible repeat (first | apply Kd.R_alloc | apply Kd.R_drewN | apply Kd.R_drew)); exact HO164.out) hb) (Kd.R_base ho0)) (Kd.R_base ho1)) (fun _ h_ => h_.1)); have n1_ := Aside0.mk (Kd.R_mono (Kd.R_told (Kd.R_told (Kd.R_old (by (with_reducible repeat (first | apply Kd.R_alloc | apply Kd.R_drewN | apply Kd.R_drew)); exact HO166.out) hb) (Kd.R_base ho0)) (Kd.R_base ho1)) (fun _ h_ => h_.1)); have n2_ := Aside0.mk (Kd.R_lower (Kd.R_new' (Kd.R_new' ho0 (Kd.R_lt (by (with_reducible repeat (first | apply Kd.R_alloc | apply Kd.R_drewN | apply Kd.R_drew)); exact HO164.out))) (Kd.R_lt (by (with_reducible repeat (first | apply Kd.R_alloc | apply Kd.R_drewN | apply Kd.R_drew)); exact HO166.out))) (below_size (by repeat (first | (with_reducible first | exact HB.out | apply below_alloc | apply pw_below_drewN | apply below_drew1) | exact HB.out)))); have n3_ := Aside0.mk (Kd.R_lower (Kd.R_new' (Kd.R_new' ho1 (Kd.R_lt (by (with_reducible repeat (first | apply Kd.R_alloc | apply Kd.R_drewN | apply Kd.R_drew)); exact HO164.out))) (Kd.R_lt (by (with_reducible repeat (first | apply Kd.R_alloc | apply Kd.R_drewN | apply Kd.R_drew)); exact HO166.out))) (below_size (by repeat (first | (with_reducible first | exact HB.out | apply below_alloc | apply pw_below_drewN | apply below_drew1) | exact HB.out)))); have n4_ := Aside0.mk (below_step (by repeat (first | (with_reducible first | exact HB.out | apply below_alloc | apply pw_below_drewN | apply below_drew1) | exact HB.out)) hb); clear HO164; clear HO166; clear HB; have HO164 := n0_; have HO166 := n1_; have HO172 := n2_; have HO174 := n3_; have HB := n4_; clear n0_ n1_ n2_ n3_ n4_; (try clear hb); (try clear hb2); (try clear hk); (try clear hi); (try clear ho0); (try clear ho1)) | ((with_reducible refine gate_callee (f := 29) rfl ?_); refine goesL_ (some 48) rfl rfl Tryz.func29 (by kernel_rfl) rfl #[.int .i64 ji14, .int .i64 ji15] rfl (by (try simp only [List.map_toArray, List.map_cons, List.map_nil]); first | done | (simp only [hji14, hji15]; rfl) | rfl | (simp only [List.length_drop, List.length_take]; rfl)) ?_; (with_reducible refine (spec_orderInts.calls ji14 ji15 t176 _ A16.out).mono ?_); rintro e w' ⟨rfl, ⟨nd, rfl⟩⟩; refine ⟨_, rfl, ?_⟩))
         go_ret2
         exact ⟨by first | rfl | (simp [errW_none, errW_some] <;> rfl) | (simp only [← hji14, ← hji15]; first | rfl | (simp [errW_none, errW_some] <;> rfl)) | (simp [*, errW_none, errW_some] <;> rfl) | (simp [bne_nil_]; done), by repeat (first | (with_reducible first | exact HB.out | apply below_alloc | apply pw_below_drewN | apply below_drew1) | exact HB.out)⟩
       · rw [if_neg c13] at H
         have c13b0 : (t169.toList == ([] : List UInt8)) = false := beq_eq_false_iff_ne.mpr c13
         have c13b1 : (t169.toList != ([] : List UInt8)) = true := bne_iff_ne.mpr c13
         simp only [Option.some.injEq, Prod.mk.injEq] at H
         obtain ⟨rfl, rfl⟩ := H
         go_enter Tryz.func14, Tryz.ntmps14
         go_wp2_with (first | ((with_reducible refine gate_callee (f := 27) rfl ?_); refine goesL_ (some 16) rfl rfl Tryz.func27 (by kernel_rfl) rfl #[.string a0, .int .i64 3, .int .i64 3] rfl (by (try simp only [List.map_toArray, List.map_cons, List.map_nil]); first | done | rfl | (simp only [List.length_drop, List.length_take]; rfl)) ?_; (with_reducible refine (spec_CoreOf.calls k a0 3 3 t159 t160 t161 true _ A3.out).mono ?_); rintro e w19 ⟨v163, v165, rfl, ho0, ho1, hb⟩; refine ⟨_, rfl, ?_⟩; have n0_ := Aside0.mk (Kd.R_lower ho0 (below_size (by repeat (first | (with_reducible first | exact HB.out | apply below_alloc | apply pw_below_drewN | apply below_drew1) | exact HB.out)))); have n1_ := Aside0.mk (Kd.R_lower ho1 (below_size (by repeat (first | (with_reducible first | exact HB.out | apply below_alloc | apply pw_below_drewN | apply below_drew1) | exact HB.out)))); have n2_ := Aside0.mk (below_step (by repeat (first | (with_reducible first | exact HB.out | apply below_alloc | apply pw_below_drewN | apply below_drew1) | exact HB.out)) hb); clear HB; have HO164 := n0_; have HO166 := n1_; have HB := n2_; clear n0_ n1_ n2_; (try clear hb); (try clear hb2); (try clear hk); (try clear hi); (try clear ho0); (try clear ho1)) | ((with_reducible refine gate_callee (f := 27) rfl ?_); refine goesL_ (some 23) rfl rfl Tryz.func27 (by kernel_rfl) rfl #[.string a1, .int .i64 3, .int .i64 3] rfl (by (try simp only [List.map_toArray, List.map_cons, List.map_nil]); first | done | rfl | (simp only [List.length_drop, List.length_take]; rfl)) ?_; (with_reducible refine (spec_CoreOf.calls k a1 3 3 t167 t168 t169 true _ A4.out).mono ?_); rintro e w20 ⟨v171, v173, rfl, ho0, ho1, hb⟩; refine ⟨_, rfl, ?_⟩; have n0_ := Aside0.mk (Kd.R_mono (Kd.R_told (Kd.R_told (Kd.R_old (by (with_reducible repeat (first | apply Kd.R_alloc | apply Kd.R_drewN | apply Kd.R_drew)); exact HO164.out) hb) (Kd.R_base ho0)) (Kd.R_base ho1)) (fun _ h_ => h_.1)); have n1_ := Aside0.mk (Kd.R_mono (Kd.R_told (Kd.R_told (Kd.R_old (by (with_reducible repeat (first | apply Kd.R_alloc | apply Kd.R_drewN | apply Kd.R_drew)); exact HO166.out) hb) (Kd.R_base ho0)) (Kd.R_base ho1)) (fun _ h_ => h_.1)); have n2_ := Aside0.mk (Kd.R_lower (Kd.R_new' (Kd.R_new' ho0 (Kd.R_lt (by (with_reducible repeat (first | apply Kd.R_alloc | apply Kd.R_drewN | apply Kd.R_drew)); exact HO164.out))) (Kd.R_lt (by (with_reducible repeat (first | apply Kd.R_alloc | apply Kd.R_drewN | apply Kd.R_drew)); exact HO166.out))) (below_size (by repeat (first | (with_reducible first | exact HB.out | apply below_alloc | apply pw_below_drewN | apply below_drew1) | exact HB.out)))); have n3_ := Aside0.mk (Kd.R_lower (Kd.R_new' (Kd.R_new' ho1 (Kd.R_lt (by (with_reducible repeat (first | apply Kd.R_alloc | apply Kd.R_drewN | apply Kd.R_drew)); exact HO164.out))) (Kd.R_lt (by (with_reducible repeat (first | apply Kd.R_alloc | apply Kd.R_drewN | apply Kd.R_drew)); exact HO166.out))) (below_size (by repeat (first | (with_reducible first | exact HB.out | apply below_alloc | apply pw_below_drewN | apply below_drew1) | exact HB.out)))); have n4_ := Aside0.mk (below_step (by repeat (first | (with_reducible first | exact HB.out | apply below_alloc | apply pw_below_drewN | apply below_drew1) | exact HB.out)) hb); clear HO164; clear HO166; clear HB; have HO164 := n0_; have HO166 := n1_; have HO172 := n2_; have HO174 := n3_; have HB := n4_; clear n0_ n1_ n2_ n3_ n4_; (try clear hb); (try clear hb2); (try clear hk); (try clear hi); (try clear ho0); (try clear ho1)))
         go_ret2
         exact ⟨by first | rfl | (simp [errW_none, errW_some] <;> rfl) | (simp [*, errW_none, errW_some] <;> rfl) | (simp [bne_nil_]; done), by repeat (first | (with_reducible first | exact HB.out | apply below_alloc | apply pw_below_drewN | apply below_drew1) | exact HB.out)⟩
   · replace c6 := Bool.eq_false_iff.mpr c6
     subst c6
     have H1 : (some (0, false)) = some (r1, r2) := by rw [if_neg (show ¬ (false = true) by decide)] at H; exact H
     clear H
     have H := H1
     clear H1
     simp only [Option.some.injEq, Prod.mk.injEq] at H
     obtain ⟨rfl, rfl⟩ := H
     go_enter Tryz.func14, Tryz.ntmps14
     go_wp2_with (first | ((with_reducible refine gate_callee (f := 27) rfl ?_); refine goesL_ (some 16) rfl rfl Tryz.func27 (by kernel_rfl) rfl #[.string a0, .int .i64 3, .int .i64 3] rfl (by (try simp only [List.map_toArray, List.map_cons, List.map_nil]); first | done | rfl | (simp only [List.length_drop, List.length_take]; rfl)) ?_; (with_reducible refine (spec_CoreOf.calls k a0 3 3 t159 t160 t161 true _ A3.out).mono ?_); rintro e w21 ⟨v163, v165, rfl, ho0, ho1, hb⟩; refine ⟨_, rfl, ?_⟩; have n0_ := Aside0.mk (Kd.R_lower ho0 (below_size (by repeat (first | (with_reducible first | exact HB.out | apply below_alloc | apply pw_below_drewN | apply below_drew1) | exact HB.out)))); have n1_ := Aside0.mk (Kd.R_lower ho1 (below_size (by repeat (first | (with_reducible first | exact HB.out | apply below_alloc | apply pw_below_drewN | apply below_drew1) | exact HB.out)))); have n2_ := Aside0.mk (below_step (by repeat (first | (with_reducible first | exact HB.out | apply below_alloc | apply pw_below_drewN | apply below_drew1) | exact HB.out)) hb); clear HB; have HO164 := n0_; have HO166 := n1_; have HB := n2_; clear n0_ n1_ n2_; (try clear hb); (try clear hb2); (try clear hk); (try clear hi); (try clear ho0); (try clear ho1)) | ((with_reducible refine gate_callee (f := 27) rfl ?_); refine goesL_ (some 23) rfl rfl Tryz.func27 (by kernel_rfl) rfl #[.string a1, .int .i64 3, .int .i64 3] rfl (by (try simp only [List.map_toArray, List.map_cons, List.map_nil]); first | done | rfl | (simp only [List.length_drop, List.length_take]; rfl)) ?_; (with_reducible refine (spec_CoreOf.calls k a1 3 3 t167 t168 t169 false _ A4.out).mono ?_); rintro e w22 ⟨v171, v173, rfl, ho0, ho1, hb⟩; refine ⟨_, rfl, ?_⟩; have n0_ := Aside0.mk (Kd.R_mono (Kd.R_told (Kd.R_told (Kd.R_old (by (with_reducible repeat (first | apply Kd.R_alloc | apply Kd.R_drewN | apply Kd.R_drew)); exact HO164.out) hb) (Kd.R_base ho0)) (Kd.R_base ho1)) (fun _ h_ => h_.1)); have n1_ := Aside0.mk (Kd.R_mono (Kd.R_told (Kd.R_told (Kd.R_old (by (with_reducible repeat (first | apply Kd.R_alloc | apply Kd.R_drewN | apply Kd.R_drew)); exact HO166.out) hb) (Kd.R_base ho0)) (Kd.R_base ho1)) (fun _ h_ => h_.1)); have n2_ := Aside0.mk (Kd.R_lower (Kd.R_new' (Kd.R_new' ho0 (Kd.R_lt (by (with_reducible repeat (first | apply Kd.R_alloc | apply Kd.R_drewN | apply Kd.R_drew)); exact HO164.out))) (Kd.R_lt (by (with_reducible repeat (first | apply Kd.R_alloc | apply Kd.R_drewN | apply Kd.R_drew)); exact HO166.out))) (below_size (by repeat (first | (with_reducible first | exact HB.out | apply below_alloc | apply pw_below_drewN | apply below_drew1) | exact HB.out)))); have n3_ := Aside0.mk (Kd.R_lower (Kd.R_new' (Kd.R_new' ho1 (Kd.R_lt (by (with_reducible repeat (first | apply Kd.R_alloc | apply Kd.R_drewN | apply Kd.R_drew)); exact HO164.out))) (Kd.R_lt (by (with_reducible repeat (first | apply Kd.R_alloc | apply Kd.R_drewN | apply Kd.R_drew)); exact HO166.out))) (below_size (by repeat (first | (with_reducible first | exact HB.out | apply below_alloc | apply pw_below_drewN | apply below_drew1) | exact HB.out)))); have n4_ := Aside0.mk (below_step (by repeat (first | (with_reducible first | exact HB.out | apply below_alloc | apply pw_below_drewN | apply below_drew1) | exact HB.out)) hb); clear HO164; clear HO166; clear HB; have HO164 := n0_; have HO166 := n1_; have HO172 := n2_; have HO174 := n3_; have HB := n4_; clear n0_ n1_ n2_ n3_ n4_; (try clear hb); (try clear hb2); (try clear hk); (try clear hi); (try clear ho0); (try clear ho1)))
     go_ret2
     exact ⟨by first | rfl | (simp [errW_none, errW_some] <;> rfl) | (simp [*, errW_none, errW_some] <;> rfl) | (simp [bne_nil_]; done), by repeat (first | (with_reducible first | exact HB.out | apply below_alloc | apply pw_below_drewN | apply below_drew1) | exact HB.out)⟩
 · replace c5 := Bool.eq_false_iff.mpr c5
   subst c5
   have H1 : (some (0, false)) = some (r1, r2) := by rw [if_neg (show ¬ (false = true) by decide)] at H; exact H
   clear H
   have H := H1
   clear H1
   simp only [Option.some.injEq, Prod.mk.injEq] at H
   obtain ⟨rfl, rfl⟩ := H
   go_enter Tryz.func14, Tryz.ntmps14
   go_wp2_with (first | ((with_reducible refine gate_callee (f := 27) rfl ?_); refine goesL_ (some 16) rfl rfl Tryz.func27 (by kernel_rfl) rfl #[.string a0, .int .i64 3, .int .i64 3] rfl (by (try simp only [List.map_toArray, List.map_cons, List.map_nil]); first | done | rfl | (simp only [List.length_drop, List.length_take]; rfl)) ?_; (with_reducible refine (spec_CoreOf.calls k a0 3 3 t159 t160 t161 false _ A3.out).mono ?_); rintro e w23 ⟨v163, v165, rfl, ho0, ho1, hb⟩; refine ⟨_, rfl, ?_⟩; have n0_ := Aside0.mk (Kd.R_lower ho0 (below_size (by repeat (first | (with_reducible first | exact HB.out | apply below_alloc | apply pw_below_drewN | apply below_drew1) | exact HB.out)))); have n1_ := Aside0.mk (Kd.R_lower ho1 (below_size (by repeat (first | (with_reducible first | exact HB.out | apply below_alloc | apply pw_below_drewN | apply below_drew1) | exact HB.out)))); have n2_ := Aside0.mk (below_step (by repeat (first | (with_reducible first | exact HB.out | apply below_alloc | apply pw_below_drewN | apply below_drew1) | exact HB.out)) hb); clear HB; have HO164 := n0_; have HO166 := n1_; have HB := n2_; clear n0_ n1_ n2_; (try clear hb); (try clear hb2); (try clear hk); (try clear hi); (try clear ho0); (try clear ho1)) | ((with_reducible refine gate_callee (f := 27) rfl ?_); refine goesL_ (some 23) rfl rfl Tryz.func27 (by kernel_rfl) rfl #[.string a1, .int .i64 3, .int .i64 3] rfl (by (try simp only [List.map_toArray, List.map_cons, List.map_nil]); first | done | rfl | (simp only [List.length_drop, List.length_take]; rfl)) ?_; (with_reducible refine (spec_CoreOf.calls k a1 3 3 t167 t168 t169 t170 _ A4.out).mono ?_); rintro e w24 ⟨v171, v173, rfl, ho0, ho1, hb⟩; refine ⟨_, rfl, ?_⟩; have n0_ := Aside0.mk (Kd.R_mono (Kd.R_told (Kd.R_told (Kd.R_old (by (with_reducible repeat (first | apply Kd.R_alloc | apply Kd.R_drewN | apply Kd.R_drew)); exact HO164.out) hb) (Kd.R_base ho0)) (Kd.R_base ho1)) (fun _ h_ => h_.1)); have n1_ := Aside0.mk (Kd.R_mono (Kd.R_told (Kd.R_told (Kd.R_old (by (with_reducible repeat (first | apply Kd.R_alloc | apply Kd.R_drewN | apply Kd.R_drew)); exact HO166.out) hb) (Kd.R_base ho0)) (Kd.R_base ho1)) (fun _ h_ => h_.1)); have n2_ := Aside0.mk (Kd.R_lower (Kd.R_new' (Kd.R_new' ho0 (Kd.R_lt (by (with_reducible repeat (first | apply Kd.R_alloc | apply Kd.R_drewN | apply Kd.R_drew)); exact HO164.out))) (Kd.R_lt (by (with_reducible repeat (first | apply Kd.R_alloc | apply Kd.R_drewN | apply Kd.R_drew)); exact HO166.out))) (below_size (by repeat (first | (with_reducible first | exact HB.out | apply below_alloc | apply pw_below_drewN | apply below_drew1) | exact HB.out)))); have n3_ := Aside0.mk (Kd.R_lower (Kd.R_new' (Kd.R_new' ho1 (Kd.R_lt (by (with_reducible repeat (first | apply Kd.R_alloc | apply Kd.R_drewN | apply Kd.R_drew)); exact HO164.out))) (Kd.R_lt (by (with_reducible repeat (first | apply Kd.R_alloc | apply Kd.R_drewN | apply Kd.R_drew)); exact HO166.out))) (below_size (by repeat (first | (with_reducible first | exact HB.out | apply below_alloc | apply pw_below_drewN | apply below_drew1) | exact HB.out)))); have n4_ := Aside0.mk (below_step (by repeat (first | (with_reducible first | exact HB.out | apply below_alloc | apply pw_below_drewN | apply below_drew1) | exact HB.out)) hb); clear HO164; clear HO166; clear HB; have HO164 := n0_; have HO166 := n1_; have HO172 := n2_; have HO174 := n3_; have HB := n4_; clear n0_ n1_ n2_ n3_ n4_; (try clear hb); (try clear hb2); (try clear hk); (try clear hi); (try clear ho0); (try clear ho1)))
   go_ret2
   exact ⟨by first | rfl | (simp [errW_none, errW_some] <;> rfl) | (simp [*, errW_none, errW_some] <;> rfl) | (simp [bne_nil_]; done), by repeat (first | (with_reducible first | exact HB.out | apply below_alloc | apply pw_below_drewN | apply below_drew1) | exact HB.out)⟩

/-! ### stringslite_HasPrefix: function 98 -/
def stringslite_HasPrefix.f (a0 : ByteArray) (a1 : ByteArray) : Option (Bool) := if (a0.size : Int) ≥ (a1.size : Int) then (if 0 ≤ (a1.size : Int) then (if (a1.size : Int) ≤ (a0.size : Int) then (some ((a0.extract 0 a1.size).toList == a1.toList)) else (none)) else (none)) else (some false)
set_option maxHeartbeats 8000000 in
set_option maxRecDepth 100000 in
theorem stringslite_HasPrefix.calls (a0 : ByteArray) (a1 : ByteArray) (r : Bool) (w : World) (h : stringslite_HasPrefix.f a0 a1 = some r) :
 Calls Tryz.prog 98 #[.string a0, .string a1] w fun e w' => e = .returned (.bool r) ∧ Drawn0 w w' := by
 have H : (if (a0.size : Int) ≥ (a1.size : Int) then (if 0 ≤ (a1.size : Int) then (if (a1.size : Int) ≤ (a0.size : Int) then (some ((a0.extract 0 a1.size).toList == a1.toList)) else (none)) else (none)) else (some false)) = some r := h
 clear h
 by_cases c3 : (a0.size : Int) ≥ (a1.size : Int)
 · rw [if_pos c3] at H
   have c3b0 : decide ((a1.size : Int) ≤ (a0.size : Int)) = true := decide_eq_true c3
   have c3b1 : decide (a1.size ≤ a0.size) = true := decide_eq_true (Int.ofNat_le.mp c3)
   clear c3
   by_cases c4 : 0 ≤ (a1.size : Int)
   · rw [if_pos c4] at H
     have c4b0 := eq_true c4
     have c4b1 : decide (0 ≤ (a1.size : Int)) = true := decide_eq_true c4
     clear c4
     by_cases c5 : (a1.size : Int) ≤ (a0.size : Int)
     · rw [if_pos c5] at H
       have c5b0 := eq_true c5
       have c5b1 : decide ((a1.size : Int) ≤ (a0.size : Int)) = true := decide_eq_true c5
       clear c5
       obtain rfl := Option.some.inj H
       go_enter Tryz.func98, Tryz.ntmps98
       go_wp2
       go_ret
       exact ⟨by first | rfl | (simp; done) | (simp [*]; done) | (simp [bne_nil_]; done), by repeat (first | exact Drawn0.refl _ | apply Drawn0.step)⟩
     · rw [if_neg c5] at H
       exact absurd H (by simp)
   · rw [if_neg c4] at H
     exact absurd H (by simp)
 · rw [if_neg c3] at H
   have c3b0 : decide ((a1.size : Int) ≤ (a0.size : Int)) = false := decide_eq_false c3
   have c3b1 : decide (a1.size ≤ a0.size) = false := decide_eq_false (fun h => c3 (Int.ofNat_le.mpr h))
   clear c3
   obtain rfl := Option.some.inj H
   go_enter Tryz.func98, Tryz.ntmps98
   go_wp2
   go_ret
   exact ⟨by first | rfl | (simp; done) | (simp [*]; done) | (simp [bne_nil_]; done), by repeat (first | exact Drawn0.refl _ | apply Drawn0.step)⟩

/-! ### strings_HasPrefix: function 83 -/
def strings_HasPrefix.f (a0 : ByteArray) (a1 : ByteArray) : Option (Bool) := (stringslite_HasPrefix.f a0 a1).bind fun t177 => (some t177)
set_option maxHeartbeats 8000000 in
set_option maxRecDepth 100000 in
theorem strings_HasPrefix.calls (a0 : ByteArray) (a1 : ByteArray) (r : Bool) (w : World) (h : strings_HasPrefix.f a0 a1 = some r) :
 Calls Tryz.prog 83 #[.string a0, .string a1] w fun e w' => e = .returned (.bool r) ∧ Drawn0 w w' := by
 have H : ((stringslite_HasPrefix.f a0 a1).bind fun t177 => (some t177)) = some r := h
 clear h
 replace H := Option.bind_eq_some_iff.mp H
 obtain ⟨t177, A30, H⟩ := H
 replace H : (some t177) = some r := H
 have A3 := Aside0.mk A30
 clear A30
 obtain rfl := Option.some.inj H
 go_enter Tryz.func83, Tryz.ntmps83
 go_wp2_with (first | ((with_reducible refine gate_callee (f := 98) rfl ?_); refine goesL_ (some 7) rfl rfl Tryz.func98 (by kernel_rfl) rfl #[.string a0, .string a1] rfl (by (try simp only [List.map_toArray, List.map_cons, List.map_nil]); first | done | rfl | (simp only [List.length_drop, List.length_take]; rfl)) ?_; (with_reducible refine (stringslite_HasPrefix.calls a0 a1 t177 _ A3.out).mono ?_); rintro e w' ⟨rfl, ⟨nd, rfl⟩⟩; refine ⟨_, rfl, ?_⟩))
 go_ret
 exact ⟨by first | rfl | (simp; done) | (simp [*]; done) | (simp [bne_nil_]; done), by repeat (first | exact Drawn0.refl _ | apply Drawn0.step)⟩

/-! ### stringslite_TrimPrefix: function 99 -/
def stringslite_TrimPrefix.f (a0 : ByteArray) (a1 : ByteArray) : Option (ByteArray) := (stringslite_HasPrefix.f a0 a1).bind fun t178 => (if t178 = true then (if 0 ≤ (a1.size : Int) then (if (a1.size : Int) ≤ (a0.size : Int) then (some (a0.extract a1.size a0.size)) else (none)) else (none)) else (some a0))
set_option maxHeartbeats 8000000 in
set_option maxRecDepth 100000 in
theorem stringslite_TrimPrefix.calls (a0 : ByteArray) (a1 : ByteArray) (r : ByteArray) (w : World) (h : stringslite_TrimPrefix.f a0 a1 = some r) :
 Calls Tryz.prog 99 #[.string a0, .string a1] w fun e w' => e = .returned (.string r) ∧ Drawn0 w w' := by
 have H : ((stringslite_HasPrefix.f a0 a1).bind fun t178 => (if t178 = true then (if 0 ≤ (a1.size : Int) then (if (a1.size : Int) ≤ (a0.size : Int) then (some (a0.extract a1.size a0.size)) else (none)) else (none)) else (some a0))) = some r := h
 clear h
 replace H := Option.bind_eq_some_iff.mp H
 obtain ⟨t178, A30, H⟩ := H
 replace H : (if t178 = true then (if 0 ≤ (a1.size : Int) then (if (a1.size : Int) ≤ (a0.size : Int) then (some (a0.extract a1.size a0.size)) else (none)) else (none)) else (some a0)) = some r := H
 have A3 := Aside0.mk A30
 clear A30
 by_cases c4 : t178 = true
 · subst c4
   have H1 : (if 0 ≤ (a1.size : Int) then (if (a1.size : Int) ≤ (a0.size : Int) then (some (a0.extract a1.size a0.size)) else (none)) else (none)) = some r := by rw [if_pos rfl] at H; exact H
   clear H
   have H := H1
   clear H1
   by_cases c5 : 0 ≤ (a1.size : Int)
   · rw [if_pos c5] at H
     have c5b0 := eq_true c5
     have c5b1 : decide (0 ≤ (a1.size : Int)) = true := decide_eq_true c5
     clear c5
     by_cases c6 : (a1.size : Int) ≤ (a0.size : Int)
     · rw [if_pos c6] at H
       have c6b0 := eq_true c6
       have c6b1 : decide ((a1.size : Int) ≤ (a0.size : Int)) = true := decide_eq_true c6
       clear c6
       obtain rfl := Option.some.inj H
       go_enter Tryz.func99, Tryz.ntmps99
       go_wp2_with (first | ((with_reducible refine gate_callee (f := 98) rfl ?_); refine goesL_ (some 7) rfl rfl Tryz.func98 (by kernel_rfl) rfl #[.string a0, .string a1] rfl (by (try simp only [List.map_toArray, List.map_cons, List.map_nil]); first | done | rfl | (simp only [List.length_drop, List.length_take]; rfl)) ?_; (with_reducible refine (stringslite_HasPrefix.calls a0 a1 true _ A3.out).mono ?_); rintro e w' ⟨rfl, ⟨nd, rfl⟩⟩; refine ⟨_, rfl, ?_⟩))
       go_ret
       exact ⟨by first | rfl | (simp; done) | (simp [*]; done) | (simp [bne_nil_]; done), by repeat (first | exact Drawn0.refl _ | apply Drawn0.step)⟩
     · rw [if_neg c6] at H
       exact absurd H (by simp)
   · rw [if_neg c5] at H
     exact absurd H (by simp)
 · replace c4 := Bool.eq_false_iff.mpr c4
   subst c4
   have H1 : (some a0) = some r := by rw [if_neg (show ¬ (false = true) by decide)] at H; exact H
   clear H
   have H := H1
   clear H1
   obtain rfl := Option.some.inj H
   go_enter Tryz.func99, Tryz.ntmps99
   go_wp2_with (first | ((with_reducible refine gate_callee (f := 98) rfl ?_); refine goesL_ (some 7) rfl rfl Tryz.func98 (by kernel_rfl) rfl #[.string a0, .string a1] rfl (by (try simp only [List.map_toArray, List.map_cons, List.map_nil]); first | done | rfl | (simp only [List.length_drop, List.length_take]; rfl)) ?_; (with_reducible refine (stringslite_HasPrefix.calls a0 a1 false _ A3.out).mono ?_); rintro e w' ⟨rfl, ⟨nd, rfl⟩⟩; refine ⟨_, rfl, ?_⟩))
   go_ret
   exact ⟨by first | rfl | (simp; done) | (simp [*]; done) | (simp [bne_nil_]; done), by repeat (first | exact Drawn0.refl _ | apply Drawn0.step)⟩

/-! ### strings_TrimPrefix: function 84 -/
def strings_TrimPrefix.f (a0 : ByteArray) (a1 : ByteArray) : Option (ByteArray) := (stringslite_TrimPrefix.f a0 a1).bind fun t179 => (some t179)
set_option maxHeartbeats 8000000 in
set_option maxRecDepth 100000 in
theorem strings_TrimPrefix.calls (a0 : ByteArray) (a1 : ByteArray) (r : ByteArray) (w : World) (h : strings_TrimPrefix.f a0 a1 = some r) :
 Calls Tryz.prog 84 #[.string a0, .string a1] w fun e w' => e = .returned (.string r) ∧ Drawn0 w w' := by
 have H : ((stringslite_TrimPrefix.f a0 a1).bind fun t179 => (some t179)) = some r := h
 clear h
 replace H := Option.bind_eq_some_iff.mp H
 obtain ⟨t179, A30, H⟩ := H
 replace H : (some t179) = some r := H
 have A3 := Aside0.mk A30
 clear A30
 obtain rfl := Option.some.inj H
 go_enter Tryz.func84, Tryz.ntmps84
 go_wp2_with (first | ((with_reducible refine gate_callee (f := 99) rfl ?_); refine goesL_ (some 7) rfl rfl Tryz.func99 (by kernel_rfl) rfl #[.string a0, .string a1] rfl (by (try simp only [List.map_toArray, List.map_cons, List.map_nil]); first | done | rfl | (simp only [List.length_drop, List.length_take]; rfl)) ?_; (with_reducible refine (stringslite_TrimPrefix.calls a0 a1 t179 _ A3.out).mono ?_); rintro e w' ⟨rfl, ⟨nd, rfl⟩⟩; refine ⟨_, rfl, ?_⟩))
 go_ret
 exact ⟨by first | rfl | (simp; done) | (simp [*]; done) | (simp [bne_nil_]; done), by repeat (first | exact Drawn0.refl _ | apply Drawn0.step)⟩

-- LEFT OUT: function 85

-- LEFT OUT: function 116

-- LEFT OUT: function 123

-- LEFT OUT: function 129

-- LEFT OUT: function 127

-- LEFT OUT: function 209

-- LEFT OUT: function 210

-- LEFT OUT: function 175

-- LEFT OUT: function 230

-- LEFT OUT: function 231

-- LEFT OUT: function 219

-- LEFT OUT: function 185

-- LEFT OUT: function 160

-- LEFT OUT: function 142

-- LEFT OUT: function 147

-- LEFT OUT: function 130

-- LEFT OUT: function 131

-- LEFT OUT: function 132

-- LEFT OUT: function 125

-- LEFT OUT: function 148

-- LEFT OUT: function 149

-- LEFT OUT: function 163

-- LEFT OUT: function 150

-- LEFT OUT: function 133

-- LEFT OUT: function 117

-- LEFT OUT: function 110

-- LEFT OUT: function 100

-- LEFT OUT: function 101

-- LEFT OUT: function 86

-- LEFT OUT: function 66

-- LEFT OUT: function 111

-- LEFT OUT: function 102

-- LEFT OUT: function 87

-- LEFT OUT: function 151

-- LEFT OUT: function 152

-- LEFT OUT: function 134

-- LEFT OUT: function 118

-- NOT PRINTED: function 135 (math_archLog2)

-- NOT PRINTED: function 164 (math_archFrexp)

-- NOT PRINTED: function 194 (math_Float64bits)

-- NOT PRINTED: function 195 (math_Float64frombits)

-- NOT PRINTED: function 225 (math_Abs)

-- NOT PRINTED: function 191 (math_IsInf)

-- NOT PRINTED: function 192 (math_IsNaN)

-- NOT PRINTED: function 193 (math_normalize)

-- NOT PRINTED: function 165 (math_frexp)

-- NOT PRINTED: function 153 (math_Frexp)

-- NOT PRINTED: function 166 (math_archLog)

-- NOT PRINTED: function 196 (math_NaN)

-- NOT PRINTED: function 197 (math_Inf)

-- NOT PRINTED: function 167 (math_log)

-- NOT PRINTED: function 154 (math_Log)

-- NOT PRINTED: function 136 (math_log2)

-- NOT PRINTED: function 119 (math_Log2)

-- LEFT OUT: function 137

-- LEFT OUT: function 138

-- LEFT OUT: function 120

-- LEFT OUT: function 121

-- LEFT OUT: function 139

-- LEFT OUT: function 122

-- LEFT OUT: function 156

-- LEFT OUT: function 211

-- LEFT OUT: function 176

-- LEFT OUT: function 157

-- LEFT OUT: function 212

-- LEFT OUT: function 177

-- LEFT OUT: function 213

-- LEFT OUT: function 178

-- LEFT OUT: function 214

-- LEFT OUT: function 229

-- LEFT OUT: function 215

-- LEFT OUT: function 179

-- LEFT OUT: function 216

-- LEFT OUT: function 180

-- LEFT OUT: function 217

-- LEFT OUT: function 181

-- LEFT OUT: function 158

-- LEFT OUT: function 93

-- LEFT OUT: function 234

-- LEFT OUT: function 235

-- LEFT OUT: function 224

-- LEFT OUT: function 232

-- LEFT OUT: function 221

-- LEFT OUT: function 226

-- LEFT OUT: function 200

-- LEFT OUT: function 218

-- LEFT OUT: function 206

-- LEFT OUT: function 182

-- LEFT OUT: function 183

-- LEFT OUT: function 184

-- LEFT OUT: function 159

-- LEFT OUT: function 141

-- LEFT OUT: function 233

-- LEFT OUT: function 223

-- LEFT OUT: function 188

-- LEFT OUT: function 207

-- LEFT OUT: function 173

-- LEFT OUT: function 189

-- LEFT OUT: function 190

-- LEFT OUT: function 162

-- LEFT OUT: function 144

-- LEFT OUT: function 220

-- LEFT OUT: function 186

-- LEFT OUT: function 228

-- LEFT OUT: function 208

-- LEFT OUT: function 174

-- LEFT OUT: function 222

-- LEFT OUT: function 187

-- LEFT OUT: function 161

-- LEFT OUT: function 143

-- LEFT OUT: function 168

-- LEFT OUT: function 198

-- LEFT OUT: function 199

-- LEFT OUT: function 169

-- LEFT OUT: function 170

-- LEFT OUT: function 201

-- LEFT OUT: function 202

-- LEFT OUT: function 171

-- LEFT OUT: function 203

-- LEFT OUT: function 204

end Go.Proofs.YtdliagehkiihpaaGreatDoor.QG
