-- Written by a working copy of the kit's print program, turned at a few places by wip/tool/mkprint.py. Lean checks it.
import Derived.Test.YtffcbcihnoaikaaDoorQOx0
import Derived.Test.YtffcbcihnoaikaaDoorQOx1
import Derived.Test.YtffcbcihnoaikaaDoorQOx2
namespace Go.Proofs.YtffcbcihnoaikaaDoor.QO
open Go.RowKit Go.Proofs.YtffcbcihnoaikaaDoorW.PrintWords Go.Proofs.YtffcbcihnoaikaaDoorW.PrintLast Go.Proofs.YtffcbcihnoaikaaDoorW.PrintMore
attribute [local go_sem] max2_int min2_int max_two min_two max_three min_three max_four min_four   -- for this text's walks alone
set_option linter.unusedVariables false
set_option linter.unusedSimpArgs false

/-! ### spec_orderNumbers: function 42 -/
mutual
def spec_orderNumbers.j1 : Nat → ByteArray → ByteArray → Option (Int)
 | 0, _, _ => none
 | k + 1, x0, x1 => spec_orderNumbers.l1 k x0 x1
def spec_orderNumbers.j3 : Nat → ByteArray → ByteArray → Option (Int)
 | 0, _, _ => none
 | k + 1, x0, x1 => if (x0.size : Int) = (x1.size : Int) then ((Giv.spec_order.f x0 x1).bind fun t153 => (some t153)) else ((spec_orderInts.f (x0.size : Int) (x1.size : Int)).bind fun t154 => (some t154))
def spec_orderNumbers.l1 : Nat → ByteArray → ByteArray → Option (Int)
 | 0, _, _ => none
 | k + 1, x0, x1 => if (x1.size : Int) > 0 then (if 0 < (x1.size : Int) then (if (bt x1 0) = 48 then (if 1 ≤ (x1.size : Int) then (spec_orderNumbers.l1 k x0 (x1.extract 1 x1.size)) else (none)) else (spec_orderNumbers.j3 k x0 x1)) else (none)) else (spec_orderNumbers.j3 k x0 x1)
def spec_orderNumbers.l0 : Nat → ByteArray → ByteArray → Option (Int)
 | 0, _, _ => none
 | k + 1, x0, x1 => if (x0.size : Int) > 0 then (if 0 < (x0.size : Int) then (if (bt x0 0) = 48 then (if 1 ≤ (x0.size : Int) then (spec_orderNumbers.l0 k (x0.extract 1 x0.size) x1) else (none)) else (spec_orderNumbers.j1 k x0 x1)) else (none)) else (spec_orderNumbers.j1 k x0 x1)
end
def spec_orderNumbers.f (k : Nat) (a0 : ByteArray) (a1 : ByteArray) : Option (Int) := spec_orderNumbers.l0 k a0 a1
theorem spec_orderNumbers.mono_l : ∀ k, (∀ y0 y1, LeO (spec_orderNumbers.j1 k y0 y1) (spec_orderNumbers.j1 (k + 1) y0 y1)) ∧ (∀ y0 y1, LeO (spec_orderNumbers.j3 k y0 y1) (spec_orderNumbers.j3 (k + 1) y0 y1)) ∧ (∀ y0 y1, LeO (spec_orderNumbers.l1 k y0 y1) (spec_orderNumbers.l1 (k + 1) y0 y1)) ∧ (∀ y0 y1, LeO (spec_orderNumbers.l0 k y0 y1) (spec_orderNumbers.l0 (k + 1) y0 y1))
 | 0 => ⟨fun _ _ r h => by simp [spec_orderNumbers.j1] at h, fun _ _ r h => by simp [spec_orderNumbers.j3] at h, fun _ _ r h => by simp [spec_orderNumbers.l1] at h, fun _ _ r h => by simp [spec_orderNumbers.l0] at h⟩
 | k + 1 => by
  obtain ⟨ih0, ih1, ih2, ih3⟩ := spec_orderNumbers.mono_l k
  refine ⟨?_, ?_, ?_, ?_⟩
  · intro y0 y1
    unfold spec_orderNumbers.j1
    repeat' first
    | (with_reducible exact ih0 _ _)
    | (with_reducible exact ih1 _ _)
    | (with_reducible exact ih2 _ _)
    | (with_reducible exact ih3 _ _)
    | (with_reducible exact LeO.refl _)
    | (with_reducible exact LeO.none _)
    | (with_reducible refine LeO.ite ?_ ?_)
    | (with_reducible refine LeO.bind ?_ (fun _ => ?_))
    | exact ih0 _ _
    | exact ih1 _ _
    | exact ih2 _ _
    | exact ih3 _ _
    | exact LeO.none _
    | refine LeO.ite ?_ ?_
    | refine LeO.bind ?_ (fun _ => ?_)
  · intro y0 y1
    unfold spec_orderNumbers.j3
    repeat' first
    | (with_reducible exact ih0 _ _)
    | (with_reducible exact ih1 _ _)
    | (with_reducible exact ih2 _ _)
    | (with_reducible exact ih3 _ _)
    | (with_reducible exact LeO.refl _)
    | (with_reducible exact LeO.none _)
    | (with_reducible refine LeO.ite ?_ ?_)
    | (with_reducible refine LeO.bind ?_ (fun _ => ?_))
    | exact ih0 _ _
    | exact ih1 _ _
    | exact ih2 _ _
    | exact ih3 _ _
    | exact LeO.none _
    | refine LeO.ite ?_ ?_
    | refine LeO.bind ?_ (fun _ => ?_)
  · intro y0 y1
    unfold spec_orderNumbers.l1
    repeat' first
    | (with_reducible exact ih0 _ _)
    | (with_reducible exact ih1 _ _)
    | (with_reducible exact ih2 _ _)
    | (with_reducible exact ih3 _ _)
    | (with_reducible exact LeO.refl _)
    | (with_reducible exact LeO.none _)
    | (with_reducible refine LeO.ite ?_ ?_)
    | (with_reducible refine LeO.bind ?_ (fun _ => ?_))
    | exact ih0 _ _
    | exact ih1 _ _
    | exact ih2 _ _
    | exact ih3 _ _
    | exact LeO.none _
    | refine LeO.ite ?_ ?_
    | refine LeO.bind ?_ (fun _ => ?_)
  · intro y0 y1
    unfold spec_orderNumbers.l0
    repeat' first
    | (with_reducible exact ih0 _ _)
    | (with_reducible exact ih1 _ _)
    | (with_reducible exact ih2 _ _)
    | (with_reducible exact ih3 _ _)
    | (with_reducible exact LeO.refl _)
    | (with_reducible exact LeO.none _)
    | (with_reducible refine LeO.ite ?_ ?_)
    | (with_reducible refine LeO.bind ?_ (fun _ => ?_))
    | exact ih0 _ _
    | exact ih1 _ _
    | exact ih2 _ _
    | exact ih3 _ _
    | exact LeO.none _
    | refine LeO.ite ?_ ?_
    | refine LeO.bind ?_ (fun _ => ?_)
theorem spec_orderNumbers.mono : ∀ a0 a1 k, LeO (spec_orderNumbers.f k a0 a1) (spec_orderNumbers.f (k + 1) a0 a1) := by
 intro a0 a1 k
 obtain ⟨ih0, ih1, ih2, ih3⟩ := spec_orderNumbers.mono_l k
 unfold spec_orderNumbers.f
 repeat' first
  | (with_reducible exact ih0 _ _)
  | (with_reducible exact ih1 _ _)
  | (with_reducible exact ih2 _ _)
  | (with_reducible exact ih3 _ _)
  | (with_reducible exact LeO.refl _)
  | (with_reducible exact LeO.none _)
  | (with_reducible refine LeO.ite ?_ ?_)
  | (with_reducible refine LeO.bind ?_ (fun _ => ?_))
  | exact ih0 _ _
  | exact ih1 _ _
  | exact ih2 _ _
  | exact ih3 _ _
  | exact LeO.none _
  | refine LeO.ite ?_ ?_
  | refine LeO.bind ?_ (fun _ => ?_)
set_option maxHeartbeats 8000000 in
set_option maxRecDepth 100000 in
theorem spec_orderNumbers.calls (k : Nat) (a0 : ByteArray) (a1 : ByteArray) (r : Int) (w : World) (h : spec_orderNumbers.f k a0 a1 = some r) :
 Calls Tryd.prog 42 #[.string a0, .string a1] w fun e w' => e = .returned (.int .i64 r) ∧ Drawn0 w w' := by
 have H : (spec_orderNumbers.l0 k a0 a1) = some r := h
 clear h
 have HC3 := Aside0.mk H
 clear H
 go_enter Tryd.func42, Tryd.ntmps42
 go_upto_block 0 with (fail)
 go_cut [0] (fun v0 wc => ∃ (kq : Nat) (x0_2 : ByteArray), v0 = .string x0_2 ∧ Aside0 (spec_orderNumbers.j1 kq x0_2 a1 = some r) ∧ Aside0 (kq ≤ k) ∧ Drawn0 w wc)
 case first =>
  have H := HC3.out
  clear HC3
  have H' := Aside0.mk H
  clear H
  go_wp2
  go_loopg [0] k (fun kq v0 w' => ∃ (x0_1 : ByteArray), v0 = .string x0_1 ∧ Aside0 (spec_orderNumbers.l0 kq x0_1 a1 = some r) ∧ Aside0 (kq ≤ k) ∧ Drawn0 w w')
  case atStart => exact ⟨(a0), (by first | rfl | (simp; done) | (simp [*]; done) | (simp [bne_nil_]; done)), H', ⟨Nat.le_refl _⟩, by repeat (first | exact Drawn0.refl _ | apply Drawn0.step)⟩
  case round =>
   clear H'
   try clear p2
   obtain ⟨x0_1, rfl, HA, HK1, ⟨m1, rfl⟩⟩ := hrel
   cases gk with
   | zero => exact absurd HA.out (by simp [spec_orderNumbers.l0])
   | succ k1 =>
    have H := HA.out
    clear HA
    simp only [spec_orderNumbers.l0] at H
    by_cases c4 : (x0_1.size : Int) > 0
    · rw [if_pos c4] at H
      have c4b0 : decide (0 < (x0_1.size : Int)) = true := decide_eq_true c4
      have c4b1 : decide (0 < x0_1.size) = true := decide_eq_true (by omega)
      clear c4
      (first | rw [c4b0] | (simp only [i64_w, i32_w]; rw [c4b0]) | skip)
      by_cases c5 : 0 < (x0_1.size : Int)
      · rw [if_pos c5] at H
        have c5b0 : decide (0 < (x0_1.size : Int)) = true := decide_eq_true c5
        have c5b1 : decide (0 < x0_1.size) = true := decide_eq_true (by omega)
        clear c5
        by_cases c7 : (bt x0_1 0) = 48
        · rw [if_pos c7] at H
          have c7b0 : ((bt x0_1 0) == 48) = true := beq_iff_eq.mpr c7
          have c7b1 : ((bt x0_1 0) != 48) = false := bne_eq_false_iff_eq.mpr c7
          clear c7
          by_cases c8 : 1 ≤ (x0_1.size : Int)
          · rw [if_pos c8] at H
            have c8b0 := eq_true c8
            have c8b1 : decide (1 ≤ (x0_1.size : Int)) = true := decide_eq_true c8
            clear c8
            have H' := Aside0.mk H
            clear H
            have p6 : 0 ≤ (0 : Int) := (by omega)
            have q6 : 0 < x0_1.size := (by have : (0 : Int) < (x0_1.size : Int) := of_decide_eq_true (by first | (with_reducible assumption) | assumption); omega)
            have hx6 : ∀ h : 0 < x0_1.size, ((x0_1[0]'h).toNat : Int) = bt x0_1 0 := bt_at x0_1 0
            clear p6
            have qi6 : (0 < (x0_1.size : Int)) = True := eq_true (of_decide_eq_true (by first | (with_reducible assumption) | assumption))
            replace q6 := eq_true q6
            go_wp2
            go_roundg k1
            case measure => have := HK1.out; omega
            case rel => exact ⟨(x0_1.extract 1 x0_1.size), (by first | rfl | (simp; done) | (simp [*]; done) | (simp [bne_nil_]; done)), H', ⟨by have := HK1.out; omega⟩, by repeat (first | exact Drawn0.refl _ | apply Drawn0.step)⟩
          · rw [if_neg c8] at H
            exact absurd H (by simp)
        · rw [if_neg c7] at H
          have c7b0 : ((bt x0_1 0) == 48) = false := beq_eq_false_iff_ne.mpr c7
          have c7b1 : ((bt x0_1 0) != 48) = true := bne_iff_ne.mpr c7
          have H' := Aside0.mk H
          clear H
          have p6 : 0 ≤ (0 : Int) := (by omega)
          have q6 : 0 < x0_1.size := (by have : (0 : Int) < (x0_1.size : Int) := of_decide_eq_true (by first | (with_reducible assumption) | assumption); omega)
          have hx6 : ∀ h : 0 < x0_1.size, ((x0_1[0]'h).toNat : Int) = bt x0_1 0 := bt_at x0_1 0
          clear p6
          have qi6 : (0 < (x0_1.size : Int)) = True := eq_true (of_decide_eq_true (by first | (with_reducible assumption) | assumption))
          replace q6 := eq_true q6
          go_wp2
          go_meet
          case rel => exact ⟨_, (x0_1), (by first | rfl | (simp; done) | (simp [*]; done) | (simp [bne_nil_]; done)), H', ⟨by have := HK1.out; first | omega | exact Nat.le_refl _⟩, by repeat (first | exact Drawn0.refl _ | apply Drawn0.step)⟩
      · rw [if_neg c5] at H
        exact absurd H (by simp)
    · rw [if_neg c4] at H
      have c4b0 : decide (0 < (x0_1.size : Int)) = false := decide_eq_false c4
      have c4b1 : decide (0 < x0_1.size) = false := decide_eq_false (by omega)
      clear c4
      (first | rw [c4b0] | (simp only [i64_w, i32_w]; rw [c4b0]) | skip)
      have H' := Aside0.mk H
      clear H
      go_wp2
      go_meet
      case rel => exact ⟨_, (x0_1), (by first | rfl | (simp; done) | (simp [*]; done) | (simp [bne_nil_]; done)), H', ⟨by have := HK1.out; first | omega | exact Nat.le_refl _⟩, by repeat (first | exact Drawn0.refl _ | apply Drawn0.step)⟩
 case rest =>
  clear HC3
  try clear p2
  try clear c4
  try clear c4b0
  try clear c4b1
  try clear c5
  try clear c5b0
  try clear c5b1
  try clear p6
  try clear q6
  try clear hx6
  try clear qi6
  try clear c7
  try clear c7b0
  try clear c7b1
  try clear c8
  try clear c8b0
  try clear c8b1
  try clear p2
  try clear p6
  try clear q6
  obtain ⟨kq, x0_2, rfl, HA, HJ2, ⟨mc2, rfl⟩⟩ := hcut
  cases kq with
  | zero => exact absurd HA.out (by simp [spec_orderNumbers.j1])
  | succ kj2 =>
   have H := HA.out
   clear HA
   simp only [spec_orderNumbers.j1] at H
   have HC9 := Aside0.mk H
   clear H
   go_upto_block 2 with (fail)
   go_cut [1] (fun v1 wc => ∃ (kq : Nat) (x1_8 : ByteArray), v1 = .string x1_8 ∧ Aside0 (spec_orderNumbers.j3 kq x0_2 x1_8 = some r) ∧ Aside0 (kq ≤ kj2) ∧ Drawn0 w wc)
   case first =>
    have H := HC9.out
    clear HC9
    have H' := Aside0.mk H
    clear H
    go_wp2
    go_loopg [1] kj2 (fun kq v1 w' => ∃ (x1_2 : ByteArray), v1 = .string x1_2 ∧ Aside0 (spec_orderNumbers.l1 kq x0_2 x1_2 = some r) ∧ Aside0 (kq ≤ kj2) ∧ Drawn0 w w')
    case atStart => exact ⟨(a1), (by first | rfl | (simp; done) | (simp [*]; done) | (simp [bne_nil_]; done)), H', ⟨Nat.le_refl _⟩, by repeat (first | exact Drawn0.refl _ | apply Drawn0.step)⟩
    case round =>
     clear H'
     try clear c2
     try clear p2
     try clear c4
     try clear c4b0
     try clear c4b1
     try clear c5
     try clear c5b0
     try clear c5b1
     try clear p6
     try clear q6
     try clear hx6
     try clear qi6
     try clear c7
     try clear c7b0
     try clear c7b1
     try clear c8
     try clear c8b0
     try clear c8b1
     try clear p2
     try clear p6
     try clear q6
     obtain ⟨x1_2, rfl, HA, HK2, ⟨m2, rfl⟩⟩ := hrel
     cases gk with
     | zero => exact absurd HA.out (by simp [spec_orderNumbers.l1])
     | succ k2 =>
      have H := HA.out
      clear HA
      simp only [spec_orderNumbers.l1] at H
      by_cases c10 : (x1_2.size : Int) > 0
      · rw [if_pos c10] at H
        have c10b0 : decide (0 < (x1_2.size : Int)) = true := decide_eq_true c10
        have c10b1 : decide (0 < x1_2.size) = true := decide_eq_true (by omega)
        clear c10
        (first | rw [c10b0] | (simp only [i64_w, i32_w]; rw [c10b0]) | skip)
        by_cases c11 : 0 < (x1_2.size : Int)
        · rw [if_pos c11] at H
          have c11b0 : decide (0 < (x1_2.size : Int)) = true := decide_eq_true c11
          have c11b1 : decide (0 < x1_2.size) = true := decide_eq_true (by omega)
          clear c11
          by_cases c13 : (bt x1_2 0) = 48
          · rw [if_pos c13] at H
            have c13b0 : ((bt x1_2 0) == 48) = true := beq_iff_eq.mpr c13
            have c13b1 : ((bt x1_2 0) != 48) = false := bne_eq_false_iff_eq.mpr c13
            clear c13
            by_cases c14 : 1 ≤ (x1_2.size : Int)
            · rw [if_pos c14] at H
              have c14b0 := eq_true c14
              have c14b1 : decide (1 ≤ (x1_2.size : Int)) = true := decide_eq_true c14
              clear c14
              have H' := Aside0.mk H
              clear H
              have p12 : 0 ≤ (0 : Int) := (by omega)
              have q12 : 0 < x1_2.size := (by have : (0 : Int) < (x1_2.size : Int) := of_decide_eq_true (by first | (with_reducible assumption) | assumption); omega)
              have hx12 : ∀ h : 0 < x1_2.size, ((x1_2[0]'h).toNat : Int) = bt x1_2 0 := bt_at x1_2 0
              clear p12
              have qi12 : (0 < (x1_2.size : Int)) = True := eq_true (of_decide_eq_true (by first | (with_reducible assumption) | assumption))
              replace q12 := eq_true q12
              go_wp2
              go_roundg k2
              case measure => have := HJ2.out; have := HK2.out; omega
              case rel => exact ⟨(x1_2.extract 1 x1_2.size), (by first | rfl | (simp; done) | (simp [*]; done) | (simp [bne_nil_]; done)), H', ⟨by have := HJ2.out; have := HK2.out; omega⟩, by repeat (first | exact Drawn0.refl _ | apply Drawn0.step)⟩
            · rw [if_neg c14] at H
              exact absurd H (by simp)
          · rw [if_neg c13] at H
            have c13b0 : ((bt x1_2 0) == 48) = false := beq_eq_false_iff_ne.mpr c13
            have c13b1 : ((bt x1_2 0) != 48) = true := bne_iff_ne.mpr c13
            have H' := Aside0.mk H
            clear H
            have p12 : 0 ≤ (0 : Int) := (by omega)
            have q12 : 0 < x1_2.size := (by have : (0 : Int) < (x1_2.size : Int) := of_decide_eq_true (by first | (with_reducible assumption) | assumption); omega)
            have hx12 : ∀ h : 0 < x1_2.size, ((x1_2[0]'h).toNat : Int) = bt x1_2 0 := bt_at x1_2 0
            clear p12
            have qi12 : (0 < (x1_2.size : Int)) = True := eq_true (of_decide_eq_true (by first | (with_reducible assumption) | assumption))
            replace q12 := eq_true q12
            go_wp2
            go_meet
            case rel => exact ⟨_, (x1_2), (by first | rfl | (simp; done) | (simp [*]; done) | (simp [bne_nil_]; done)), H', ⟨by have := HJ2.out; have := HK2.out; first | omega | exact Nat.le_refl _⟩, by repeat (first | exact Drawn0.refl _ | apply Drawn0.step)⟩
        · rw [if_neg c11] at H
          exact absurd H (by simp)
      · rw [if_neg c10] at H
        have c10b0 : decide (0 < (x1_2.size : Int)) = false := decide_eq_false c10
        have c10b1 : decide (0 < x1_2.size) = false := decide_eq_false (by omega)
        clear c10
        (first | rw [c10b0] | (simp only [i64_w, i32_w]; rw [c10b0]) | skip)
        have H' := Aside0.mk H
        clear H
        go_wp2
        go_meet
        case rel => exact ⟨_, (x1_2), (by first | rfl | (simp; done) | (simp [*]; done) | (simp [bne_nil_]; done)), H', ⟨by have := HJ2.out; have := HK2.out; first | omega | exact Nat.le_refl _⟩, by repeat (first | exact Drawn0.refl _ | apply Drawn0.step)⟩
   case rest =>
    clear HC9
    try clear c1
    try clear p1
    try clear q1
    try clear hx1
    try clear qi1
    try clear c2
    try clear p2
    try clear c4
    try clear c4b0
    try clear c4b1
    try clear c5
    try clear c5b0
    try clear c5b1
    try clear p6
    try clear q6
    try clear hx6
    try clear qi6
    try clear c7
    try clear c7b0
    try clear c7b1
    try clear c8
    try clear c8b0
    try clear c8b1
    try clear c10
    try clear c10b0
    try clear c10b1
    try clear c11
    try clear c11b0
    try clear c11b1
    try clear p12
    try clear q12
    try clear hx12
    try clear qi12
    try clear c13
    try clear c13b0
    try clear c13b1
    try clear c14
    try clear c14b0
    try clear c14b1
    try clear p12
    try clear p2
    try clear p6
    try clear q12
    try clear q6
    obtain ⟨kq, x1_8, rfl, HA, HJ8, ⟨mc8, rfl⟩⟩ := hcut
    cases kq with
    | zero => exact absurd HA.out (by simp [spec_orderNumbers.j3])
    | succ kj8 =>
     have H := HA.out
     clear HA
     simp only [spec_orderNumbers.j3] at H
     by_cases c15 : (x0_2.size : Int) = (x1_8.size : Int)
     · rw [if_pos c15] at H
       have c15b0 : ((x0_2.size : Int) == (x1_8.size : Int)) = true := beq_iff_eq.mpr c15
       have c15b1 : ((x0_2.size : Int) != (x1_8.size : Int)) = false := bne_eq_false_iff_eq.mpr c15
       have c15b2 : (x0_2.size == x1_8.size) = true := by first | simpa using c15 | (simp at c15 ⊢; omega)
       clear c15
       replace H := Option.bind_eq_some_iff.mp H
       obtain ⟨t153, A160, H⟩ := H
       replace H : (some t153) = some r := H
       have A16 := Aside0.mk A160
       clear A160
       obtain rfl := Option.some.inj H
       go_wp2_with (first | ((with_reducible refine gate_callee (f := 38) rfl ?_); refine goesL_ (some 37) rfl rfl Tryd.func38 (by kernel_rfl) rfl #[.string x0_2, .string x1_8] rfl (by (try simp only [List.map_toArray, List.map_cons, List.map_nil]); first | done | rfl | (simp only [List.length_drop, List.length_take]; rfl)) ?_; (with_reducible refine (Giv.spec_order.calls x0_2 x1_8 t153 _ A16.out).mono ?_); rintro e w' ⟨rfl, ⟨nd, rfl⟩⟩; refine ⟨_, rfl, ?_⟩))
       go_ret
       exact ⟨by first | rfl | (simp; done) | (simp [*]; done) | (simp [bne_nil_]; done), by repeat (first | exact Drawn0.refl _ | apply Drawn0.step)⟩
     · rw [if_neg c15] at H
       have c15b0 : ((x0_2.size : Int) == (x1_8.size : Int)) = false := beq_eq_false_iff_ne.mpr c15
       have c15b1 : ((x0_2.size : Int) != (x1_8.size : Int)) = true := bne_iff_ne.mpr c15
       have c15b2 : (x0_2.size == x1_8.size) = false := by first | simpa using c15 | (simp at c15 ⊢; omega)
       replace H := Option.bind_eq_some_iff.mp H
       obtain ⟨t154, A170, H⟩ := H
       replace H : (some t154) = some r := H
       have A17 := Aside0.mk A170
       clear A170
       obtain rfl := Option.some.inj H
       go_wp2_with (first | ((with_reducible refine gate_callee (f := 37) rfl ?_); refine goesL_ (some 34) rfl rfl Tryd.func37 (by kernel_rfl) rfl #[.int .i64 (x0_2.size : Int), .int .i64 (x1_8.size : Int)] rfl (by (try simp only [List.map_toArray, List.map_cons, List.map_nil]); first | done | rfl | (simp only [List.length_drop, List.length_take]; rfl)) ?_; (with_reducible refine (spec_orderInts.calls (x0_2.size : Int) (x1_8.size : Int) t154 _ A17.out).mono ?_); rintro e w' ⟨rfl, ⟨nd, rfl⟩⟩; refine ⟨_, rfl, ?_⟩))
       go_ret
       exact ⟨by first | rfl | (simp; done) | (simp [*]; done) | (simp [bne_nil_]; done), by repeat (first | exact Drawn0.refl _ | apply Drawn0.step)⟩

/-! ### spec_debParts: function 25 -/
mutual
def spec_debParts.l0 : Nat → ByteArray → ByteArray → Option (Int)
 | 0, _, _ => none
 | k + 1, x0, x1 => if (x0.size : Int) > 0 then (spec_debParts.j1 k x0 x1 true) else (spec_debParts.j1 k x0 x1 (decide ((x1.size : Int) > 0)))
def spec_debParts.j1 : Nat → ByteArray → ByteArray → Bool → Option (Int)
 | 0, _, _, _ => none
 | k + 1, x0, x1, x17 => if x17 = true then (spec_debParts.l1 k x0 x1 0) else (some 0)
def spec_debParts.l1 : Nat → ByteArray → ByteArray → Int → Option (Int)
 | 0, _, _, _ => none
 | k + 1, x0, x1, x5 => if x5 < (x0.size : Int) then (if 0 ≤ x5 then ((spec_isDigit.f (bt x0 x5)).bind fun t155 => (if t155 = true then (if x5 < (x1.size : Int) then ((spec_isDigit.f (bt x1 x5)).bind fun t156 => (spec_debParts.j3 k x0 x1 x5 (!t156))) else (spec_debParts.j3 k x0 x1 x5 false)) else (spec_debParts.j3 k x0 x1 x5 true))) else (none)) else (if x5 < (x1.size : Int) then (if 0 ≤ x5 then ((spec_isDigit.f (bt x1 x5)).bind fun t157 => (spec_debParts.j3 k x0 x1 x5 (!t157))) else (none)) else (spec_debParts.j3 k x0 x1 x5 false))
def spec_debParts.j3 : Nat → ByteArray → ByteArray → Int → Bool → Option (Int)
 | 0, _, _, _, _ => none
 | k + 1, x0, x1, x5, x41 => if x41 = true then ((spec_debWeight.f k x0 x5).bind fun t158 => ((spec_debWeight.f k x1 x5).bind fun t159 => ((spec_orderInts.f t158 t159).bind fun t160 => (if t160 = 0 then (spec_debParts.l1 k x0 x1 (wrap64 (x5 + 1))) else (some t160))))) else (if 0 ≤ x5 then (if x5 ≤ (x0.size : Int) then (if x5 ≤ (x1.size : Int) then ((spec_debRun.f k (x0.extract (x5 : Int).toNat x0.size)).bind fun t161 => ((spec_debRun.f k (x1.extract (x5 : Int).toNat x1.size)).bind fun t162 => (if 0 ≤ t161 then (if t161 ≤ ((x0.extract (x5 : Int).toNat x0.size).size : Int) then (if 0 ≤ t162 then (if t162 ≤ ((x1.extract (x5 : Int).toNat x1.size).size : Int) then ((spec_orderNumbers.f k ((x0.extract (x5 : Int).toNat x0.size).extract 0 (t161 : Int).toNat) ((x1.extract (x5 : Int).toNat x1.size).extract 0 (t162 : Int).toNat)).bind fun t163 => (if t163 = 0 then (spec_debParts.l0 k ((x0.extract (x5 : Int).toNat x0.size).extract (t161 : Int).toNat (x0.size - (x5 : Int).toNat)) ((x1.extract (x5 : Int).toNat x1.size).extract (t162 : Int).toNat (x1.size - (x5 : Int).toNat))) else (some t163))) else (none)) else (none)) else (none)) else (none)))) else (none)) else (none)) else (none))
end
def spec_debParts.f (k : Nat) (a0 : ByteArray) (a1 : ByteArray) : Option (Int) := spec_debParts.l0 k a0 a1
theorem spec_debParts.mono_l : ∀ k, (∀ y0 y1, LeO (spec_debParts.l0 k y0 y1) (spec_debParts.l0 (k + 1) y0 y1)) ∧ (∀ y0 y1 y2, LeO (spec_debParts.j1 k y0 y1 y2) (spec_debParts.j1 (k + 1) y0 y1 y2)) ∧ (∀ y0 y1 y2, LeO (spec_debParts.l1 k y0 y1 y2) (spec_debParts.l1 (k + 1) y0 y1 y2)) ∧ (∀ y0 y1 y2 y3, LeO (spec_debParts.j3 k y0 y1 y2 y3) (spec_debParts.j3 (k + 1) y0 y1 y2 y3))
 | 0 => ⟨fun _ _ r h => by simp [spec_debParts.l0] at h, fun _ _ _ r h => by simp [spec_debParts.j1] at h, fun _ _ _ r h => by simp [spec_debParts.l1] at h, fun _ _ _ _ r h => by simp [spec_debParts.j3] at h⟩
 | k + 1 => by
  obtain ⟨ih0, ih1, ih2, ih3⟩ := spec_debParts.mono_l k
  refine ⟨?_, ?_, ?_, ?_⟩
  · intro y0 y1
    unfold spec_debParts.l0
    repeat' first
    | (with_reducible exact ih0 _ _)
    | (with_reducible exact ih1 _ _ _)
    | (with_reducible exact ih2 _ _ _)
    | (with_reducible exact ih3 _ _ _ _)
    | (with_reducible exact spec_debRun.mono _ _)
    | (with_reducible exact spec_debWeight.mono _ _ _)
    | (with_reducible exact spec_orderNumbers.mono _ _ _)
    | (with_reducible exact LeO.refl _)
    | (with_reducible exact LeO.none _)
    | (with_reducible refine LeO.ite ?_ ?_)
    | (with_reducible refine LeO.bind ?_ (fun _ => ?_))
    | exact ih0 _ _
    | exact ih1 _ _ _
    | exact ih2 _ _ _
    | exact ih3 _ _ _ _
    | exact spec_debRun.mono _ _
    | exact spec_debWeight.mono _ _ _
    | exact spec_orderNumbers.mono _ _ _
    | exact LeO.none _
    | refine LeO.ite ?_ ?_
    | refine LeO.bind ?_ (fun _ => ?_)
  · intro y0 y1 y2
    unfold spec_debParts.j1
    repeat' first
    | (with_reducible exact ih0 _ _)
    | (with_reducible exact ih1 _ _ _)
    | (with_reducible exact ih2 _ _ _)
    | (with_reducible exact ih3 _ _ _ _)
    | (with_reducible exact spec_debRun.mono _ _)
    | (with_reducible exact spec_debWeight.mono _ _ _)
    | (with_reducible exact spec_orderNumbers.mono _ _ _)
    | (with_reducible exact LeO.refl _)
    | (with_reducible exact LeO.none _)
    | (with_reducible refine LeO.ite ?_ ?_)
    | (with_reducible refine LeO.bind ?_ (fun _ => ?_))
    | exact ih0 _ _
    | exact ih1 _ _ _
    | exact ih2 _ _ _
    | exact ih3 _ _ _ _
    | exact spec_debRun.mono _ _
    | exact spec_debWeight.mono _ _ _
    | exact spec_orderNumbers.mono _ _ _
    | exact LeO.none _
    | refine LeO.ite ?_ ?_
    | refine LeO.bind ?_ (fun _ => ?_)
  · intro y0 y1 y2
    unfold spec_debParts.l1
    repeat' first
    | (with_reducible exact ih0 _ _)
    | (with_reducible exact ih1 _ _ _)
    | (with_reducible exact ih2 _ _ _)
    | (with_reducible exact ih3 _ _ _ _)
    | (with_reducible exact spec_debRun.mono _ _)
    | (with_reducible exact spec_debWeight.mono _ _ _)
    | (with_reducible exact spec_orderNumbers.mono _ _ _)
    | (with_reducible exact LeO.refl _)
    | (with_reducible exact LeO.none _)
    | (with_reducible refine LeO.ite ?_ ?_)
    | (with_reducible refine LeO.bind ?_ (fun _ => ?_))
    | exact ih0 _ _
    | exact ih1 _ _ _
    | exact ih2 _ _ _
    | exact ih3 _ _ _ _
    | exact spec_debRun.mono _ _
    | exact spec_debWeight.mono _ _ _
    | exact spec_orderNumbers.mono _ _ _
    | exact LeO.none _
    | refine LeO.ite ?_ ?_
    | refine LeO.bind ?_ (fun _ => ?_)
  · intro y0 y1 y2 y3
    unfold spec_debParts.j3
    repeat' first
    | (with_reducible exact ih0 _ _)
    | (with_reducible exact ih1 _ _ _)
    | (with_reducible exact ih2 _ _ _)
    | (with_reducible exact ih3 _ _ _ _)
    | (with_reducible exact spec_debRun.mono _ _)
    | (with_reducible exact spec_debWeight.mono _ _ _)
    | (with_reducible exact spec_orderNumbers.mono _ _ _)
    | (with_reducible exact LeO.refl _)
    | (with_reducible exact LeO.none _)
    | (with_reducible refine LeO.ite ?_ ?_)
    | (with_reducible refine LeO.bind ?_ (fun _ => ?_))
    | exact ih0 _ _
    | exact ih1 _ _ _
    | exact ih2 _ _ _
    | exact ih3 _ _ _ _
    | exact spec_debRun.mono _ _
    | exact spec_debWeight.mono _ _ _
    | exact spec_orderNumbers.mono _ _ _
    | exact LeO.none _
    | refine LeO.ite ?_ ?_
    | refine LeO.bind ?_ (fun _ => ?_)
theorem spec_debParts.mono : ∀ a0 a1 k, LeO (spec_debParts.f k a0 a1) (spec_debParts.f (k + 1) a0 a1) := by
 intro a0 a1 k
 obtain ⟨ih0, ih1, ih2, ih3⟩ := spec_debParts.mono_l k
 unfold spec_debParts.f
 repeat' first
  | (with_reducible exact ih0 _ _)
  | (with_reducible exact ih1 _ _ _)
  | (with_reducible exact ih2 _ _ _)
  | (with_reducible exact ih3 _ _ _ _)
  | (with_reducible exact spec_debRun.mono _ _)
  | (with_reducible exact spec_debWeight.mono _ _ _)
  | (with_reducible exact spec_orderNumbers.mono _ _ _)
  | (with_reducible exact LeO.refl _)
  | (with_reducible exact LeO.none _)
  | (with_reducible refine LeO.ite ?_ ?_)
  | (with_reducible refine LeO.bind ?_ (fun _ => ?_))
  | exact ih0 _ _
  | exact ih1 _ _ _
  | exact ih2 _ _ _
  | exact ih3 _ _ _ _
  | exact spec_debRun.mono _ _
  | exact spec_debWeight.mono _ _ _
  | exact spec_orderNumbers.mono _ _ _
  | exact LeO.none _
  | refine LeO.ite ?_ ?_
  | refine LeO.bind ?_ (fun _ => ?_)
set_option maxHeartbeats 8000000 in
set_option maxRecDepth 100000 in
theorem spec_debParts.calls (k : Nat) (a0 : ByteArray) (a1 : ByteArray) (r : Int) (w : World) (h : spec_debParts.f k a0 a1 = some r) :
 Calls Tryd.prog 25 #[.string a0, .string a1] w fun e w' => e = .returned (.int .i64 r) ∧ Drawn0 w w' := by
 have H : (spec_debParts.l0 k a0 a1) = some r := h
 clear h
 have H' := Aside0.mk H
 clear H
 go_enter Tryd.func25, Tryd.ntmps25
 go_wp2
 repeat (go_quiet (fail); try go_wp2)
 go_loopg [0, 1] k (fun kq v0 v1 w' => ∃ (x0_1 : ByteArray) (x1_1 : ByteArray), v0 = .string x0_1 ∧ v1 = .string x1_1 ∧ Aside0 (spec_debParts.l0 kq x0_1 x1_1 = some r) ∧ Aside0 (kq ≤ k) ∧ Drawn0 w w')
 case atStart => exact ⟨(a0), (a1), (by first | rfl | (simp; done) | (simp [*]; done) | (simp [bne_nil_]; done)), (by first | rfl | (simp; done) | (simp [*]; done) | (simp [bne_nil_]; done)), H', ⟨Nat.le_refl _⟩, by repeat (first | exact Drawn0.refl _ | apply Drawn0.step)⟩
 case round =>
  clear H'
  try clear c2
  try clear p2
  obtain ⟨x0_1, x1_1, rfl, rfl, HA, HK1, ⟨m1, rfl⟩⟩ := hrel
  cases gk with
  | zero => exact absurd HA.out (by simp [spec_debParts.l0])
  | succ k1 =>
   have H := HA.out
   clear HA
   simp only [spec_debParts.l0] at H
   have HC3 := Aside0.mk H
   clear H
   go_upto_region 1 with (fail)
   repeat (go_quiet (fail); go_upto_region 1 with (fail))
   go_cut [17] (fun v17 wc => ∃ (kq : Nat) (x17_2 : Bool), v17 = .bool x17_2 ∧ Aside0 (spec_debParts.j1 kq x0_1 x1_1 x17_2 = some r) ∧ Aside0 (kq ≤ k1) ∧ Drawn0 w wc)
   case first =>
    have H := HC3.out
    clear HC3
    by_cases c4 : (x0_1.size : Int) > 0
    · rw [if_pos c4] at H
      have c4b0 : decide (0 < (x0_1.size : Int)) = true := decide_eq_true c4
      have c4b1 : decide (0 < x0_1.size) = true := decide_eq_true (by omega)
      clear c4
      (first | rw [c4b0] | (simp only [i64_w, i32_w]; rw [c4b0]) | skip)
      have H' := Aside0.mk H
      clear H
      go_wp2
      repeat (go_quiet (fail); try go_wp2)
      go_meet
      case rel => exact ⟨_, (true), (by first | rfl | (simp; done) | (simp [*]; done) | (simp [bne_nil_]; done)), H', ⟨by have := HK1.out; first | omega | exact Nat.le_refl _⟩, by repeat (first | exact Drawn0.refl _ | apply Drawn0.step)⟩
    · rw [if_neg c4] at H
      have c4b0 : decide (0 < (x0_1.size : Int)) = false := decide_eq_false c4
      have c4b1 : decide (0 < x0_1.size) = false := decide_eq_false (by omega)
      clear c4
      (first | rw [c4b0] | (simp only [i64_w, i32_w]; rw [c4b0]) | skip)
      have H' := Aside0.mk H
      clear H
      go_wp2
      repeat (go_quiet (fail); try go_wp2)
      go_meet
      case rel => exact ⟨_, (decide ((x1_1.size : Int) > 0)), (by first | rfl | (simp; done) | (simp [*]; done) | (simp [bne_nil_]; done)), H', ⟨by have := HK1.out; first | omega | exact Nat.le_refl _⟩, by repeat (first | exact Drawn0.refl _ | apply Drawn0.step)⟩
   case rest =>
    clear HC3
    try clear c2
    try clear p2
    try clear c4
    try clear c4b0
    try clear c4b1
    try clear p2
    obtain ⟨kq, x17_2, rfl, HA, HJ2, ⟨mc2, rfl⟩⟩ := hcut
    cases kq with
    | zero => exact absurd HA.out (by simp [spec_debParts.j1])
    | succ kj2 =>
     have H := HA.out
     clear HA
     simp only [spec_debParts.j1] at H
     by_cases c5 : x17_2 = true
     · subst c5
       have H1 : (spec_debParts.l1 kj2 x0_1 x1_1 0) = some r := by rw [if_pos rfl] at H; exact H
       clear H
       have H := H1
       clear H1
       have H' := Aside0.mk H
       clear H
       go_wp2
       repeat (go_quiet (fail); try go_wp2)
       go_loopg [5] kj2 (fun kq v5 w' => ∃ (x5_3 : Int), v5 = .int .i64 x5_3 ∧ Aside0 (spec_debParts.l1 kq x0_1 x1_1 x5_3 = some r) ∧ Aside0 (kq ≤ kj2) ∧ Drawn0 w w')
       case atStart => exact ⟨(0), (by first | rfl | (simp; done) | (simp [*]; done) | (simp [bne_nil_]; done)), H', ⟨Nat.le_refl _⟩, by repeat (first | exact Drawn0.refl _ | apply Drawn0.step)⟩
       case round =>
        clear H'
        try clear c2
        try clear p2
        try clear c4
        try clear c4b0
        try clear c4b1
        try clear c5
        try clear p2
        obtain ⟨x5_3, rfl, HA, HK3, ⟨m3, rfl⟩⟩ := hrel
        cases gk with
        | zero => exact absurd HA.out (by simp [spec_debParts.l1])
        | succ k3 =>
         have H := HA.out
         clear HA
         simp only [spec_debParts.l1] at H
         have HC6 := Aside0.mk H
         clear H
         go_upto_region 3 with (fail)
         repeat (go_quiet (fail); go_upto_region 3 with (fail))
         go_cut [41] (fun v41 wc => ∃ (kq : Nat) (x41_5 : Bool), v41 = .bool x41_5 ∧ Aside0 (spec_debParts.j3 kq x0_1 x1_1 x5_3 x41_5 = some r) ∧ Aside0 (kq ≤ k3) ∧ Drawn0 w wc)
         case first =>
          have H := HC6.out
          clear HC6
          by_cases c7 : x5_3 < (x0_1.size : Int)
          · rw [if_pos c7] at H
            have c7b0 : decide (x5_3 < (x0_1.size : Int)) = true := decide_eq_true c7
            clear c7
            (first | rw [c7b0] | (simp only [i64_w, i32_w]; rw [c7b0]) | skip)
            by_cases c8 : 0 ≤ x5_3
            · rw [if_pos c8] at H
              have c8b0 : decide (0 ≤ x5_3) = true := decide_eq_true c8
              clear c8
              replace H := Option.bind_eq_some_iff.mp H
              obtain ⟨t155, A100, H⟩ := H
              replace H : (if t155 = true then (if x5_3 < (x1_1.size : Int) then ((spec_isDigit.f (bt x1_1 x5_3)).bind fun t156 => (spec_debParts.j3 k3 x0_1 x1_1 x5_3 (!t156))) else (spec_debParts.j3 k3 x0_1 x1_1 x5_3 false)) else (spec_debParts.j3 k3 x0_1 x1_1 x5_3 true)) = some r := H
              have A10 := Aside0.mk A100
              clear A100
              by_cases c11 : t155 = true
              · subst c11
                have H1 : (if x5_3 < (x1_1.size : Int) then ((spec_isDigit.f (bt x1_1 x5_3)).bind fun t156 => (spec_debParts.j3 k3 x0_1 x1_1 x5_3 (!t156))) else (spec_debParts.j3 k3 x0_1 x1_1 x5_3 false)) = some r := by rw [if_pos rfl] at H; exact H
                clear H
                have H := H1
                clear H1
                by_cases c12 : x5_3 < (x1_1.size : Int)
                · rw [if_pos c12] at H
                  have c12b0 : decide (x5_3 < (x1_1.size : Int)) = true := decide_eq_true c12
                  clear c12
                  replace H := Option.bind_eq_some_iff.mp H
                  obtain ⟨t156, A140, H⟩ := H
                  replace H : (spec_debParts.j3 k3 x0_1 x1_1 x5_3 (!t156)) = some r := H
                  have A14 := Aside0.mk A140
                  clear A140
                  have H' := Aside0.mk H
                  clear H
                  have p9 : 0 ≤ (x5_3 : Int) := of_decide_eq_true (by first | (with_reducible assumption) | assumption)
                  have q9 : x5_3 < (x0_1.size : Int) := of_decide_eq_true (by first | (with_reducible assumption) | assumption)
                  have hx9 := bt_at x0_1 x5_3
                  replace p9 := eq_true p9
                  replace q9 := eq_true q9
                  go_wp2_with (first | (go_at_call 39; (with_reducible refine (spec_isDigit.calls (bt x0_1 x5_3) true _ A10.out).mono ?_); rintro e w' ⟨rfl, ⟨nd, rfl⟩⟩; (try first | exact ⟨rfl, _, World.drewN_drewN _ _ _⟩ | exact ⟨rfl, _, Eq.trans (World.drewN_drewN _ _ _) (congrArg (World.drewN _) (Nat.add_assoc _ _ _))⟩); have p13 : 0 ≤ (x5_3 : Int) := of_decide_eq_true (by first | (with_reducible assumption) | assumption); have q13 : x5_3 < (x1_1.size : Int) := of_decide_eq_true (by first | (with_reducible assumption) | assumption); have hx13 := bt_at x1_1 x5_3; replace p13 := eq_true p13; replace q13 := eq_true q13) | (go_at_call 39; (with_reducible refine (spec_isDigit.calls (bt x1_1 x5_3) t156 _ A14.out).mono ?_); rintro e w' ⟨rfl, ⟨nd, rfl⟩⟩; (try first | exact ⟨rfl, _, World.drewN_drewN _ _ _⟩ | exact ⟨rfl, _, Eq.trans (World.drewN_drewN _ _ _) (congrArg (World.drewN _) (Nat.add_assoc _ _ _))⟩)))
                  repeat (go_quiet (first | (go_at_call 39; (with_reducible refine (spec_isDigit.calls (bt x0_1 x5_3) true _ A10.out).mono ?_); rintro e w' ⟨rfl, ⟨nd, rfl⟩⟩; (try first | exact ⟨rfl, _, World.drewN_drewN _ _ _⟩ | exact ⟨rfl, _, Eq.trans (World.drewN_drewN _ _ _) (congrArg (World.drewN _) (Nat.add_assoc _ _ _))⟩); have p13 : 0 ≤ (x5_3 : Int) := of_decide_eq_true (by first | (with_reducible assumption) | assumption); have q13 : x5_3 < (x1_1.size : Int) := of_decide_eq_true (by first | (with_reducible assumption) | assumption); have hx13 := bt_at x1_1 x5_3; replace p13 := eq_true p13; replace q13 := eq_true q13) | (go_at_call 39; (with_reducible refine (spec_isDigit.calls (bt x1_1 x5_3) t156 _ A14.out).mono ?_); rintro e w' ⟨rfl, ⟨nd, rfl⟩⟩; (try first | exact ⟨rfl, _, World.drewN_drewN _ _ _⟩ | exact ⟨rfl, _, Eq.trans (World.drewN_drewN _ _ _) (congrArg (World.drewN _) (Nat.add_assoc _ _ _))⟩))); try go_wp2_with (first | (go_at_call 39; (with_reducible refine (spec_isDigit.calls (bt x0_1 x5_3) true _ A10.out).mono ?_); rintro e w' ⟨rfl, ⟨nd, rfl⟩⟩; (try first | exact ⟨rfl, _, World.drewN_drewN _ _ _⟩ | exact ⟨rfl, _, Eq.trans (World.drewN_drewN _ _ _) (congrArg (World.drewN _) (Nat.add_assoc _ _ _))⟩); have p13 : 0 ≤ (x5_3 : Int) := of_decide_eq_true (by first | (with_reducible assumption) | assumption); have q13 : x5_3 < (x1_1.size : Int) := of_decide_eq_true (by first | (with_reducible assumption) | assumption); have hx13 := bt_at x1_1 x5_3; replace p13 := eq_true p13; replace q13 := eq_true q13) | (go_at_call 39; (with_reducible refine (spec_isDigit.calls (bt x1_1 x5_3) t156 _ A14.out).mono ?_); rintro e w' ⟨rfl, ⟨nd, rfl⟩⟩; (try first | exact ⟨rfl, _, World.drewN_drewN _ _ _⟩ | exact ⟨rfl, _, Eq.trans (World.drewN_drewN _ _ _) (congrArg (World.drewN _) (Nat.add_assoc _ _ _))⟩))))
                  go_meet
                  case rel => exact ⟨_, (!t156), (by first | rfl | (simp; done) | (simp [*]; done) | (simp [bne_nil_]; done)), H', ⟨by have := HK1.out; have := HJ2.out; have := HK3.out; first | omega | exact Nat.le_refl _⟩, by repeat (first | exact Drawn0.refl _ | apply Drawn0.step)⟩
                · rw [if_neg c12] at H
                  have c12b0 : decide (x5_3 < (x1_1.size : Int)) = false := decide_eq_false c12
                  clear c12
                  have H' := Aside0.mk H
                  clear H
                  have p9 : 0 ≤ (x5_3 : Int) := of_decide_eq_true (by first | (with_reducible assumption) | assumption)
                  have q9 : x5_3 < (x0_1.size : Int) := of_decide_eq_true (by first | (with_reducible assumption) | assumption)
                  have hx9 := bt_at x0_1 x5_3
                  replace p9 := eq_true p9
                  replace q9 := eq_true q9
                  go_wp2_with (first | (go_at_call 39; (with_reducible refine (spec_isDigit.calls (bt x0_1 x5_3) true _ A10.out).mono ?_); rintro e w' ⟨rfl, ⟨nd, rfl⟩⟩; (try first | exact ⟨rfl, _, World.drewN_drewN _ _ _⟩ | exact ⟨rfl, _, Eq.trans (World.drewN_drewN _ _ _) (congrArg (World.drewN _) (Nat.add_assoc _ _ _))⟩)))
                  repeat (go_quiet (first | (go_at_call 39; (with_reducible refine (spec_isDigit.calls (bt x0_1 x5_3) true _ A10.out).mono ?_); rintro e w' ⟨rfl, ⟨nd, rfl⟩⟩; (try first | exact ⟨rfl, _, World.drewN_drewN _ _ _⟩ | exact ⟨rfl, _, Eq.trans (World.drewN_drewN _ _ _) (congrArg (World.drewN _) (Nat.add_assoc _ _ _))⟩))); try go_wp2_with (first | (go_at_call 39; (with_reducible refine (spec_isDigit.calls (bt x0_1 x5_3) true _ A10.out).mono ?_); rintro e w' ⟨rfl, ⟨nd, rfl⟩⟩; (try first | exact ⟨rfl, _, World.drewN_drewN _ _ _⟩ | exact ⟨rfl, _, Eq.trans (World.drewN_drewN _ _ _) (congrArg (World.drewN _) (Nat.add_assoc _ _ _))⟩))))
                  go_meet
                  case rel => exact ⟨_, (false), (by first | rfl | (simp; done) | (simp [*]; done) | (simp [bne_nil_]; done)), H', ⟨by have := HK1.out; have := HJ2.out; have := HK3.out; first | omega | exact Nat.le_refl _⟩, by repeat (first | exact Drawn0.refl _ | apply Drawn0.step)⟩
              · replace c11 := Bool.eq_false_iff.mpr c11
                subst c11
                have H1 : (spec_debParts.j3 k3 x0_1 x1_1 x5_3 true) = some r := by rw [if_neg (show ¬ (false = true) by decide)] at H; exact H
                clear H
                have H := H1
                clear H1
                have H' := Aside0.mk H
                clear H
                have p9 : 0 ≤ (x5_3 : Int) := of_decide_eq_true (by first | (with_reducible assumption) | assumption)
                have q9 : x5_3 < (x0_1.size : Int) := of_decide_eq_true (by first | (with_reducible assumption) | assumption)
                have hx9 := bt_at x0_1 x5_3
                replace p9 := eq_true p9
                replace q9 := eq_true q9
                go_wp2_with (first | (go_at_call 39; (with_reducible refine (spec_isDigit.calls (bt x0_1 x5_3) false _ A10.out).mono ?_); rintro e w' ⟨rfl, ⟨nd, rfl⟩⟩; (try first | exact ⟨rfl, _, World.drewN_drewN _ _ _⟩ | exact ⟨rfl, _, Eq.trans (World.drewN_drewN _ _ _) (congrArg (World.drewN _) (Nat.add_assoc _ _ _))⟩)))
                repeat (go_quiet (first | (go_at_call 39; (with_reducible refine (spec_isDigit.calls (bt x0_1 x5_3) false _ A10.out).mono ?_); rintro e w' ⟨rfl, ⟨nd, rfl⟩⟩; (try first | exact ⟨rfl, _, World.drewN_drewN _ _ _⟩ | exact ⟨rfl, _, Eq.trans (World.drewN_drewN _ _ _) (congrArg (World.drewN _) (Nat.add_assoc _ _ _))⟩))); try go_wp2_with (first | (go_at_call 39; (with_reducible refine (spec_isDigit.calls (bt x0_1 x5_3) false _ A10.out).mono ?_); rintro e w' ⟨rfl, ⟨nd, rfl⟩⟩; (try first | exact ⟨rfl, _, World.drewN_drewN _ _ _⟩ | exact ⟨rfl, _, Eq.trans (World.drewN_drewN _ _ _) (congrArg (World.drewN _) (Nat.add_assoc _ _ _))⟩))))
                go_meet
                case rel => exact ⟨_, (true), (by first | rfl | (simp; done) | (simp [*]; done) | (simp [bne_nil_]; done)), H', ⟨by have := HK1.out; have := HJ2.out; have := HK3.out; first | omega | exact Nat.le_refl _⟩, by repeat (first | exact Drawn0.refl _ | apply Drawn0.step)⟩
            · rw [if_neg c8] at H
              exact absurd H (by simp)
          · rw [if_neg c7] at H
            have c7b0 : decide (x5_3 < (x0_1.size : Int)) = false := decide_eq_false c7
            clear c7
            (first | rw [c7b0] | (simp only [i64_w, i32_w]; rw [c7b0]) | skip)
            by_cases c15 : x5_3 < (x1_1.size : Int)
            · rw [if_pos c15] at H
              have c15b0 : decide (x5_3 < (x1_1.size : Int)) = true := decide_eq_true c15
              clear c15
              by_cases c16 : 0 ≤ x5_3
              · rw [if_pos c16] at H
                have c16b0 : decide (0 ≤ x5_3) = true := decide_eq_true c16
                clear c16
                replace H := Option.bind_eq_some_iff.mp H
                obtain ⟨t157, A180, H⟩ := H
                replace H : (spec_debParts.j3 k3 x0_1 x1_1 x5_3 (!t157)) = some r := H
                have A18 := Aside0.mk A180
                clear A180
                have H' := Aside0.mk H
                clear H
                have p17 : 0 ≤ (x5_3 : Int) := of_decide_eq_true (by first | (with_reducible assumption) | assumption)
                have q17 : x5_3 < (x1_1.size : Int) := of_decide_eq_true (by first | (with_reducible assumption) | assumption)
                have hx17 := bt_at x1_1 x5_3
                replace p17 := eq_true p17
                replace q17 := eq_true q17
                go_wp2_with (first | (go_at_call 39; (with_reducible refine (spec_isDigit.calls (bt x1_1 x5_3) t157 _ A18.out).mono ?_); rintro e w' ⟨rfl, ⟨nd, rfl⟩⟩; (try first | exact ⟨rfl, _, World.drewN_drewN _ _ _⟩ | exact ⟨rfl, _, Eq.trans (World.drewN_drewN _ _ _) (congrArg (World.drewN _) (Nat.add_assoc _ _ _))⟩)))
                repeat (go_quiet (first | (go_at_call 39; (with_reducible refine (spec_isDigit.calls (bt x1_1 x5_3) t157 _ A18.out).mono ?_); rintro e w' ⟨rfl, ⟨nd, rfl⟩⟩; (try first | exact ⟨rfl, _, World.drewN_drewN _ _ _⟩ | exact ⟨rfl, _, Eq.trans (World.drewN_drewN _ _ _) (congrArg (World.drewN _) (Nat.add_assoc _ _ _))⟩))); try go_wp2_with (first | (go_at_call 39; (with_reducible refine (spec_isDigit.calls (bt x1_1 x5_3) t157 _ A18.out).mono ?_); rintro e w' ⟨rfl, ⟨nd, rfl⟩⟩; (try first | exact ⟨rfl, _, World.drewN_drewN _ _ _⟩ | exact ⟨rfl, _, Eq.trans (World.drewN_drewN _ _ _) (congrArg (World.drewN _) (Nat.add_assoc _ _ _))⟩))))
                go_meet
                case rel => exact ⟨_, (!t157), (by first | rfl | (simp; done) | (simp [*]; done) | (simp [bne_nil_]; done)), H', ⟨by have := HK1.out; have := HJ2.out; have := HK3.out; first | omega | exact Nat.le_refl _⟩, by repeat (first | exact Drawn0.refl _ | apply Drawn0.step)⟩
              · rw [if_neg c16] at H
                exact absurd H (by simp)
            · rw [if_neg c15] at H
              have c15b0 : decide (x5_3 < (x1_1.size : Int)) = false := decide_eq_false c15
              clear c15
              have H' := Aside0.mk H
              clear H
              go_wp2
              repeat (go_quiet (fail); try go_wp2)
              go_meet
              case rel => exact ⟨_, (false), (by first | rfl | (simp; done) | (simp [*]; done) | (simp [bne_nil_]; done)), H', ⟨by have := HK1.out; have := HJ2.out; have := HK3.out; first | omega | exact Nat.le_refl _⟩, by repeat (first | exact Drawn0.refl _ | apply Drawn0.step)⟩
         case rest =>
          clear HC6
          try clear c1
          try clear p1
          try clear q1
          try clear hx1
          try clear c2
          try clear p2
          try clear c4
          try clear c4b0
          try clear c4b1
          try clear c5
          try clear c7
          try clear c7b0
          try clear c8
          try clear c8b0
          try clear p9
          try clear q9
          try clear hx9
          try clear c11
          try clear c12
          try clear c12b0
          try clear p13
          try clear q13
          try clear hx13
          try clear c15
          try clear c15b0
          try clear c16
          try clear c16b0
          try clear p17
          try clear q17
          try clear hx17
          try clear p13
          try clear p17
          try clear p2
          try clear p9
          try clear q13
          try clear q17
          try clear q9
          obtain ⟨kq, x41_5, rfl, HA, HJ5, ⟨mc5, rfl⟩⟩ := hcut
          cases kq with
          | zero => exact absurd HA.out (by simp [spec_debParts.j3])
          | succ kj5 =>
           have H := HA.out
           clear HA
           simp only [spec_debParts.j3] at H
           by_cases c19 : x41_5 = true
           · subst c19
             have H1 : ((spec_debWeight.f kj5 x0_1 x5_3).bind fun t158 => ((spec_debWeight.f kj5 x1_1 x5_3).bind fun t159 => ((spec_orderInts.f t158 t159).bind fun t160 => (if t160 = 0 then (spec_debParts.l1 kj5 x0_1 x1_1 (wrap64 (x5_3 + 1))) else (some t160))))) = some r := by rw [if_pos rfl] at H; exact H
             clear H
             have H := H1
             clear H1
             replace H := Option.bind_eq_some_iff.mp H
             obtain ⟨t158, A200, H⟩ := H
             replace H : ((spec_debWeight.f kj5 x1_1 x5_3).bind fun t159 => ((spec_orderInts.f t158 t159).bind fun t160 => (if t160 = 0 then (spec_debParts.l1 kj5 x0_1 x1_1 (wrap64 (x5_3 + 1))) else (some t160)))) = some r := H
             have A20 := Aside0.mk A200
             clear A200
             replace H := Option.bind_eq_some_iff.mp H
             obtain ⟨t159, A210, H⟩ := H
             replace H : ((spec_orderInts.f t158 t159).bind fun t160 => (if t160 = 0 then (spec_debParts.l1 kj5 x0_1 x1_1 (wrap64 (x5_3 + 1))) else (some t160))) = some r := H
             have A21 := Aside0.mk A210
             clear A210
             replace H := Option.bind_eq_some_iff.mp H
             obtain ⟨t160, A220, H⟩ := H
             replace H : (if t160 = 0 then (spec_debParts.l1 kj5 x0_1 x1_1 (wrap64 (x5_3 + 1))) else (some t160)) = some r := H
             have A22 := Aside0.mk A220
             clear A220
             by_cases c23 : t160 = 0
             · rw [if_pos c23] at H
               have c23b0 : (t160 == 0) = true := beq_iff_eq.mpr c23
               have c23b1 : (t160 != 0) = false := bne_eq_false_iff_eq.mpr c23
               clear c23
               have H' := Aside0.mk H
               clear H
               go_wp2_with (first | (go_at_call 40; (with_reducible refine (spec_debWeight.calls kj5 x0_1 x5_3 t158 _ A20.out).mono ?_); rintro e w' ⟨rfl, ⟨nd, rfl⟩⟩; (try first | exact ⟨rfl, _, World.drewN_drewN _ _ _⟩ | exact ⟨rfl, _, Eq.trans (World.drewN_drewN _ _ _) (congrArg (World.drewN _) (Nat.add_assoc _ _ _))⟩)) | (go_at_call 40; (with_reducible refine (spec_debWeight.calls kj5 x1_1 x5_3 t159 _ A21.out).mono ?_); rintro e w' ⟨rfl, ⟨nd, rfl⟩⟩; (try first | exact ⟨rfl, _, World.drewN_drewN _ _ _⟩ | exact ⟨rfl, _, Eq.trans (World.drewN_drewN _ _ _) (congrArg (World.drewN _) (Nat.add_assoc _ _ _))⟩)) | (go_at_call 37; (with_reducible refine (spec_orderInts.calls t158 t159 t160 _ A22.out).mono ?_); rintro e w' ⟨rfl, ⟨nd, rfl⟩⟩; (try first | exact ⟨rfl, _, World.drewN_drewN _ _ _⟩ | exact ⟨rfl, _, Eq.trans (World.drewN_drewN _ _ _) (congrArg (World.drewN _) (Nat.add_assoc _ _ _))⟩)))
               repeat (go_quiet (first | (go_at_call 40; (with_reducible refine (spec_debWeight.calls kj5 x0_1 x5_3 t158 _ A20.out).mono ?_); rintro e w' ⟨rfl, ⟨nd, rfl⟩⟩; (try first | exact ⟨rfl, _, World.drewN_drewN _ _ _⟩ | exact ⟨rfl, _, Eq.trans (World.drewN_drewN _ _ _) (congrArg (World.drewN _) (Nat.add_assoc _ _ _))⟩)) | (go_at_call 40; (with_reducible refine (spec_debWeight.calls kj5 x1_1 x5_3 t159 _ A21.out).mono ?_); rintro e w' ⟨rfl, ⟨nd, rfl⟩⟩; (try first | exact ⟨rfl, _, World.drewN_drewN _ _ _⟩ | exact ⟨rfl, _, Eq.trans (World.drewN_drewN _ _ _) (congrArg (World.drewN _) (Nat.add_assoc _ _ _))⟩)) | (go_at_call 37; (with_reducible refine (spec_orderInts.calls t158 t159 t160 _ A22.out).mono ?_); rintro e w' ⟨rfl, ⟨nd, rfl⟩⟩; (try first | exact ⟨rfl, _, World.drewN_drewN _ _ _⟩ | exact ⟨rfl, _, Eq.trans (World.drewN_drewN _ _ _) (congrArg (World.drewN _) (Nat.add_assoc _ _ _))⟩))); try go_wp2_with (first | (go_at_call 40; (with_reducible refine (spec_debWeight.calls kj5 x0_1 x5_3 t158 _ A20.out).mono ?_); rintro e w' ⟨rfl, ⟨nd, rfl⟩⟩; (try first | exact ⟨rfl, _, World.drewN_drewN _ _ _⟩ | exact ⟨rfl, _, Eq.trans (World.drewN_drewN _ _ _) (congrArg (World.drewN _) (Nat.add_assoc _ _ _))⟩)) | (go_at_call 40; (with_reducible refine (spec_debWeight.calls kj5 x1_1 x5_3 t159 _ A21.out).mono ?_); rintro e w' ⟨rfl, ⟨nd, rfl⟩⟩; (try first | exact ⟨rfl, _, World.drewN_drewN _ _ _⟩ | exact ⟨rfl, _, Eq.trans (World.drewN_drewN _ _ _) (congrArg (World.drewN _) (Nat.add_assoc _ _ _))⟩)) | (go_at_call 37; (with_reducible refine (spec_orderInts.calls t158 t159 t160 _ A22.out).mono ?_); rintro e w' ⟨rfl, ⟨nd, rfl⟩⟩; (try first | exact ⟨rfl, _, World.drewN_drewN _ _ _⟩ | exact ⟨rfl, _, Eq.trans (World.drewN_drewN _ _ _) (congrArg (World.drewN _) (Nat.add_assoc _ _ _))⟩))))
               go_roundg kj5
               case measure => have := HK1.out; have := HJ2.out; have := HK3.out; have := HJ5.out; omega
               case rel => exact ⟨(wrap64 (x5_3 + 1)), (by first | rfl | (simp; done) | (simp [*]; done) | (simp [bne_nil_]; done)), H', ⟨by have := HK1.out; have := HJ2.out; have := HK3.out; have := HJ5.out; omega⟩, by repeat (first | exact Drawn0.refl _ | apply Drawn0.step)⟩
             · rw [if_neg c23] at H
               have c23b0 : (t160 == 0) = false := beq_eq_false_iff_ne.mpr c23
               have c23b1 : (t160 != 0) = true := bne_iff_ne.mpr c23
               obtain rfl := Option.some.inj H
               go_wp2_with (first | (go_at_call 40; (with_reducible refine (spec_debWeight.calls kj5 x0_1 x5_3 t158 _ A20.out).mono ?_); rintro e w' ⟨rfl, ⟨nd, rfl⟩⟩; (try first | exact ⟨rfl, _, World.drewN_drewN _ _ _⟩ | exact ⟨rfl, _, Eq.trans (World.drewN_drewN _ _ _) (congrArg (World.drewN _) (Nat.add_assoc _ _ _))⟩)) | (go_at_call 40; (with_reducible refine (spec_debWeight.calls kj5 x1_1 x5_3 t159 _ A21.out).mono ?_); rintro e w' ⟨rfl, ⟨nd, rfl⟩⟩; (try first | exact ⟨rfl, _, World.drewN_drewN _ _ _⟩ | exact ⟨rfl, _, Eq.trans (World.drewN_drewN _ _ _) (congrArg (World.drewN _) (Nat.add_assoc _ _ _))⟩)) | (go_at_call 37; (with_reducible refine (spec_orderInts.calls t158 t159 t160 _ A22.out).mono ?_); rintro e w' ⟨rfl, ⟨nd, rfl⟩⟩; (try first | exact ⟨rfl, _, World.drewN_drewN _ _ _⟩ | exact ⟨rfl, _, Eq.trans (World.drewN_drewN _ _ _) (congrArg (World.drewN _) (Nat.add_assoc _ _ _))⟩)))
               repeat (go_quiet (first | (go_at_call 40; (with_reducible refine (spec_debWeight.calls kj5 x0_1 x5_3 t158 _ A20.out).mono ?_); rintro e w' ⟨rfl, ⟨nd, rfl⟩⟩; (try first | exact ⟨rfl, _, World.drewN_drewN _ _ _⟩ | exact ⟨rfl, _, Eq.trans (World.drewN_drewN _ _ _) (congrArg (World.drewN _) (Nat.add_assoc _ _ _))⟩)) | (go_at_call 40; (with_reducible refine (spec_debWeight.calls kj5 x1_1 x5_3 t159 _ A21.out).mono ?_); rintro e w' ⟨rfl, ⟨nd, rfl⟩⟩; (try first | exact ⟨rfl, _, World.drewN_drewN _ _ _⟩ | exact ⟨rfl, _, Eq.trans (World.drewN_drewN _ _ _) (congrArg (World.drewN _) (Nat.add_assoc _ _ _))⟩)) | (go_at_call 37; (with_reducible refine (spec_orderInts.calls t158 t159 t160 _ A22.out).mono ?_); rintro e w' ⟨rfl, ⟨nd, rfl⟩⟩; (try first | exact ⟨rfl, _, World.drewN_drewN _ _ _⟩ | exact ⟨rfl, _, Eq.trans (World.drewN_drewN _ _ _) (congrArg (World.drewN _) (Nat.add_assoc _ _ _))⟩))); try go_wp2_with (first | (go_at_call 40; (with_reducible refine (spec_debWeight.calls kj5 x0_1 x5_3 t158 _ A20.out).mono ?_); rintro e w' ⟨rfl, ⟨nd, rfl⟩⟩; (try first | exact ⟨rfl, _, World.drewN_drewN _ _ _⟩ | exact ⟨rfl, _, Eq.trans (World.drewN_drewN _ _ _) (congrArg (World.drewN _) (Nat.add_assoc _ _ _))⟩)) | (go_at_call 40; (with_reducible refine (spec_debWeight.calls kj5 x1_1 x5_3 t159 _ A21.out).mono ?_); rintro e w' ⟨rfl, ⟨nd, rfl⟩⟩; (try first | exact ⟨rfl, _, World.drewN_drewN _ _ _⟩ | exact ⟨rfl, _, Eq.trans (World.drewN_drewN _ _ _) (congrArg (World.drewN _) (Nat.add_assoc _ _ _))⟩)) | (go_at_call 37; (with_reducible refine (spec_orderInts.calls t158 t159 t160 _ A22.out).mono ?_); rintro e w' ⟨rfl, ⟨nd, rfl⟩⟩; (try first | exact ⟨rfl, _, World.drewN_drewN _ _ _⟩ | exact ⟨rfl, _, Eq.trans (World.drewN_drewN _ _ _) (congrArg (World.drewN _) (Nat.add_assoc _ _ _))⟩))))
               go_ret
               exact ⟨by first | rfl | (simp; done) | (simp [*]; done) | (simp [bne_nil_]; done), by repeat (first | exact Drawn0.refl _ | apply Drawn0.step)⟩
           · replace c19 := Bool.eq_false_iff.mpr c19
             subst c19
             have H1 : (if 0 ≤ x5_3 then (if x5_3 ≤ (x0_1.size : Int) then (if x5_3 ≤ (x1_1.size : Int) then ((spec_debRun.f kj5 (x0_1.extract (x5_3 : Int).toNat x0_1.size)).bind fun t161 => ((spec_debRun.f kj5 (x1_1.extract (x5_3 : Int).toNat x1_1.size)).bind fun t162 => (if 0 ≤ t161 then (if t161 ≤ ((x0_1.extract (x5_3 : Int).toNat x0_1.size).size : Int) then (if 0 ≤ t162 then (if t162 ≤ ((x1_1.extract (x5_3 : Int).toNat x1_1.size).size : Int) then ((spec_orderNumbers.f kj5 ((x0_1.extract (x5_3 : Int).toNat x0_1.size).extract 0 (t161 : Int).toNat) ((x1_1.extract (x5_3 : Int).toNat x1_1.size).extract 0 (t162 : Int).toNat)).bind fun t163 => (if t163 = 0 then (spec_debParts.l0 kj5 ((x0_1.extract (x5_3 : Int).toNat x0_1.size).extract (t161 : Int).toNat (x0_1.size - (x5_3 : Int).toNat)) ((x1_1.extract (x5_3 : Int).toNat x1_1.size).extract (t162 : Int).toNat (x1_1.size - (x5_3 : Int).toNat))) else (some t163))) else (none)) else (none)) else (none)) else (none)))) else (none)) else (none)) else (none)) = some r := by rw [if_neg (show ¬ (false = true) by decide)] at H; exact H
             clear H
             have H := H1
             clear H1
             by_cases c24 : 0 ≤ x5_3
             · rw [if_pos c24] at H
               have c24b0 := eq_true c24
               have c24b1 : decide (0 ≤ x5_3) = true := decide_eq_true c24
               clear c24
               by_cases c25 : x5_3 ≤ (x0_1.size : Int)
               · rw [if_pos c25] at H
                 have c25b0 := eq_true c25
                 have c25b1 : decide (x5_3 ≤ (x0_1.size : Int)) = true := decide_eq_true c25
                 clear c25
                 have c26b0 := eq_true (of_decide_eq_true (by first | (with_reducible assumption) | assumption) : 0 ≤ x5_3)
                 by_cases c27 : x5_3 ≤ (x1_1.size : Int)
                 · rw [if_pos c27] at H
                   have c27b0 := eq_true c27
                   have c27b1 : decide (x5_3 ≤ (x1_1.size : Int)) = true := decide_eq_true c27
                   clear c27
                   replace H := Option.bind_eq_some_iff.mp H
                   obtain ⟨t161, A280, H⟩ := H
                   replace H : ((spec_debRun.f kj5 (x1_1.extract (x5_3 : Int).toNat x1_1.size)).bind fun t162 => (if 0 ≤ t161 then (if t161 ≤ ((x0_1.extract (x5_3 : Int).toNat x0_1.size).size : Int) then (if 0 ≤ t162 then (if t162 ≤ ((x1_1.extract (x5_3 : Int).toNat x1_1.size).size : Int) then ((spec_orderNumbers.f kj5 ((x0_1.extract (x5_3 : Int).toNat x0_1.size).extract 0 (t161 : Int).toNat) ((x1_1.extract (x5_3 : Int).toNat x1_1.size).extract 0 (t162 : Int).toNat)).bind fun t163 => (if t163 = 0 then (spec_debParts.l0 kj5 ((x0_1.extract (x5_3 : Int).toNat x0_1.size).extract (t161 : Int).toNat (x0_1.size - (x5_3 : Int).toNat)) ((x1_1.extract (x5_3 : Int).toNat x1_1.size).extract (t162 : Int).toNat (x1_1.size - (x5_3 : Int).toNat))) else (some t163))) else (none)) else (none)) else (none)) else (none))) = some r := H
                   have A28 := Aside0.mk A280
                   clear A280
                   replace H := Option.bind_eq_some_iff.mp H
                   obtain ⟨t162, A290, H⟩ := H
                   replace H : (if 0 ≤ t161 then (if t161 ≤ ((x0_1.extract (x5_3 : Int).toNat x0_1.size).size : Int) then (if 0 ≤ t162 then (if t162 ≤ ((x1_1.extract (x5_3 : Int).toNat x1_1.size).size : Int) then ((spec_orderNumbers.f kj5 ((x0_1.extract (x5_3 : Int).toNat x0_1.size).extract 0 (t161 : Int).toNat) ((x1_1.extract (x5_3 : Int).toNat x1_1.size).extract 0 (t162 : Int).toNat)).bind fun t163 => (if t163 = 0 then (spec_debParts.l0 kj5 ((x0_1.extract (x5_3 : Int).toNat x0_1.size).extract (t161 : Int).toNat (x0_1.size - (x5_3 : Int).toNat)) ((x1_1.extract (x5_3 : Int).toNat x1_1.size).extract (t162 : Int).toNat (x1_1.size - (x5_3 : Int).toNat))) else (some t163))) else (none)) else (none)) else (none)) else (none)) = some r := H
                   have A29 := Aside0.mk A290
                   clear A290
                   by_cases c30 : 0 ≤ t161
                   · rw [if_pos c30] at H
                     have c30b0 := eq_true c30
                     have c30b1 : decide (0 ≤ t161) = true := decide_eq_true c30
                     clear c30
                     by_cases c31 : t161 ≤ ((x0_1.extract (x5_3 : Int).toNat x0_1.size).size : Int)
                     · rw [if_pos c31] at H
                       have c31b0 := eq_true c31
                       have c31b1 : decide (t161 ≤ ((x0_1.extract (x5_3 : Int).toNat x0_1.size).size : Int)) = true := decide_eq_true c31
                       (try (have c31bz := c31; simp only [ByteArray.size_extract, Nat.min_self] at c31bz; replace c31bz := eq_true c31bz))
                       clear c31
                       by_cases c32 : 0 ≤ t162
                       · rw [if_pos c32] at H
                         have c32b0 := eq_true c32
                         have c32b1 : decide (0 ≤ t162) = true := decide_eq_true c32
                         clear c32
                         by_cases c33 : t162 ≤ ((x1_1.extract (x5_3 : Int).toNat x1_1.size).size : Int)
                         · rw [if_pos c33] at H
                           have c33b0 := eq_true c33
                           have c33b1 : decide (t162 ≤ ((x1_1.extract (x5_3 : Int).toNat x1_1.size).size : Int)) = true := decide_eq_true c33
                           (try (have c33bz := c33; simp only [ByteArray.size_extract, Nat.min_self] at c33bz; replace c33bz := eq_true c33bz))
                           clear c33
                           replace H := Option.bind_eq_some_iff.mp H
                           obtain ⟨t163, A340, H⟩ := H
                           replace H : (if t163 = 0 then (spec_debParts.l0 kj5 ((x0_1.extract (x5_3 : Int).toNat x0_1.size).extract (t161 : Int).toNat (x0_1.size - (x5_3 : Int).toNat)) ((x1_1.extract (x5_3 : Int).toNat x1_1.size).extract (t162 : Int).toNat (x1_1.size - (x5_3 : Int).toNat))) else (some t163)) = some r := H
                           have A34 := Aside0.mk A340
                           clear A340
                           by_cases c35 : t163 = 0
                           · rw [if_pos c35] at H
                             have c35b0 : (t163 == 0) = true := beq_iff_eq.mpr c35
                             have c35b1 : (t163 != 0) = false := bne_eq_false_iff_eq.mpr c35
                             clear c35
                             have c36b0 := eq_true (of_decide_eq_true (by first | (with_reducible assumption) | assumption) : 0 ≤ t161)
                             have c37b0 := eq_true (of_decide_eq_true (by first | (with_reducible assumption) | assumption) : t161 ≤ ((x0_1.extract (x5_3 : Int).toNat x0_1.size).size : Int))
                             have c38b0 := eq_true (of_decide_eq_true (by first | (with_reducible assumption) | assumption) : 0 ≤ t162)
                             have c39b0 := eq_true (of_decide_eq_true (by first | (with_reducible assumption) | assumption) : t162 ≤ ((x1_1.extract (x5_3 : Int).toNat x1_1.size).size : Int))
                             have H' := Aside0.mk H
                             clear H
                             go_wp2_with (first | (go_at_call 41; (with_reducible refine (spec_debRun.calls kj5 (x0_1.extract (x5_3 : Int).toNat x0_1.size) t161 _ A28.out).mono ?_); rintro e w' ⟨rfl, ⟨nd, rfl⟩⟩; (try first | exact ⟨rfl, _, World.drewN_drewN _ _ _⟩ | exact ⟨rfl, _, Eq.trans (World.drewN_drewN _ _ _) (congrArg (World.drewN _) (Nat.add_assoc _ _ _))⟩)) | (go_at_call 41; (with_reducible refine (spec_debRun.calls kj5 (x1_1.extract (x5_3 : Int).toNat x1_1.size) t162 _ A29.out).mono ?_); rintro e w' ⟨rfl, ⟨nd, rfl⟩⟩; (try first | exact ⟨rfl, _, World.drewN_drewN _ _ _⟩ | exact ⟨rfl, _, Eq.trans (World.drewN_drewN _ _ _) (congrArg (World.drewN _) (Nat.add_assoc _ _ _))⟩)) | (go_at_call 42; (with_reducible refine (spec_orderNumbers.calls kj5 ((x0_1.extract (x5_3 : Int).toNat x0_1.size).extract 0 (t161 : Int).toNat) ((x1_1.extract (x5_3 : Int).toNat x1_1.size).extract 0 (t162 : Int).toNat) t163 _ A34.out).mono ?_); rintro e w' ⟨rfl, ⟨nd, rfl⟩⟩; (try first | exact ⟨rfl, _, World.drewN_drewN _ _ _⟩ | exact ⟨rfl, _, Eq.trans (World.drewN_drewN _ _ _) (congrArg (World.drewN _) (Nat.add_assoc _ _ _))⟩)))
                             repeat (go_quiet (first | (go_at_call 41; (with_reducible refine (spec_debRun.calls kj5 (x0_1.extract (x5_3 : Int).toNat x0_1.size) t161 _ A28.out).mono ?_); rintro e w' ⟨rfl, ⟨nd, rfl⟩⟩; (try first | exact ⟨rfl, _, World.drewN_drewN _ _ _⟩ | exact ⟨rfl, _, Eq.trans (World.drewN_drewN _ _ _) (congrArg (World.drewN _) (Nat.add_assoc _ _ _))⟩)) | (go_at_call 41; (with_reducible refine (spec_debRun.calls kj5 (x1_1.extract (x5_3 : Int).toNat x1_1.size) t162 _ A29.out).mono ?_); rintro e w' ⟨rfl, ⟨nd, rfl⟩⟩; (try first | exact ⟨rfl, _, World.drewN_drewN _ _ _⟩ | exact ⟨rfl, _, Eq.trans (World.drewN_drewN _ _ _) (congrArg (World.drewN _) (Nat.add_assoc _ _ _))⟩)) | (go_at_call 42; (with_reducible refine (spec_orderNumbers.calls kj5 ((x0_1.extract (x5_3 : Int).toNat x0_1.size).extract 0 (t161 : Int).toNat) ((x1_1.extract (x5_3 : Int).toNat x1_1.size).extract 0 (t162 : Int).toNat) t163 _ A34.out).mono ?_); rintro e w' ⟨rfl, ⟨nd, rfl⟩⟩; (try first | exact ⟨rfl, _, World.drewN_drewN _ _ _⟩ | exact ⟨rfl, _, Eq.trans (World.drewN_drewN _ _ _) (congrArg (World.drewN _) (Nat.add_assoc _ _ _))⟩))); try go_wp2_with (first | (go_at_call 41; (with_reducible refine (spec_debRun.calls kj5 (x0_1.extract (x5_3 : Int).toNat x0_1.size) t161 _ A28.out).mono ?_); rintro e w' ⟨rfl, ⟨nd, rfl⟩⟩; (try first | exact ⟨rfl, _, World.drewN_drewN _ _ _⟩ | exact ⟨rfl, _, Eq.trans (World.drewN_drewN _ _ _) (congrArg (World.drewN _) (Nat.add_assoc _ _ _))⟩)) | (go_at_call 41; (with_reducible refine (spec_debRun.calls kj5 (x1_1.extract (x5_3 : Int).toNat x1_1.size) t162 _ A29.out).mono ?_); rintro e w' ⟨rfl, ⟨nd, rfl⟩⟩; (try first | exact ⟨rfl, _, World.drewN_drewN _ _ _⟩ | exact ⟨rfl, _, Eq.trans (World.drewN_drewN _ _ _) (congrArg (World.drewN _) (Nat.add_assoc _ _ _))⟩)) | (go_at_call 42; (with_reducible refine (spec_orderNumbers.calls kj5 ((x0_1.extract (x5_3 : Int).toNat x0_1.size).extract 0 (t161 : Int).toNat) ((x1_1.extract (x5_3 : Int).toNat x1_1.size).extract 0 (t162 : Int).toNat) t163 _ A34.out).mono ?_); rintro e w' ⟨rfl, ⟨nd, rfl⟩⟩; (try first | exact ⟨rfl, _, World.drewN_drewN _ _ _⟩ | exact ⟨rfl, _, Eq.trans (World.drewN_drewN _ _ _) (congrArg (World.drewN _) (Nat.add_assoc _ _ _))⟩))))
                             go_roundg kj5
                             case measure => have := HK1.out; have := HJ2.out; have := HK3.out; have := HJ5.out; omega
                             case rel => exact ⟨((x0_1.extract (x5_3 : Int).toNat x0_1.size).extract (t161 : Int).toNat (x0_1.size - (x5_3 : Int).toNat)), ((x1_1.extract (x5_3 : Int).toNat x1_1.size).extract (t162 : Int).toNat (x1_1.size - (x5_3 : Int).toNat)), (by first | rfl | (simp; done) | (simp [*]; done) | (simp [bne_nil_]; done)), (by first | rfl | (simp; done) | (simp [*]; done) | (simp [bne_nil_]; done)), H', ⟨by have := HK1.out; have := HJ2.out; have := HK3.out; have := HJ5.out; omega⟩, by repeat (first | exact Drawn0.refl _ | apply Drawn0.step)⟩
                           · rw [if_neg c35] at H
                             have c35b0 : (t163 == 0) = false := beq_eq_false_iff_ne.mpr c35
                             have c35b1 : (t163 != 0) = true := bne_iff_ne.mpr c35
                             obtain rfl := Option.some.inj H
                             go_wp2_with (first | (go_at_call 41; (with_reducible refine (spec_debRun.calls kj5 (x0_1.extract (x5_3 : Int).toNat x0_1.size) t161 _ A28.out).mono ?_); rintro e w' ⟨rfl, ⟨nd, rfl⟩⟩; (try first | exact ⟨rfl, _, World.drewN_drewN _ _ _⟩ | exact ⟨rfl, _, Eq.trans (World.drewN_drewN _ _ _) (congrArg (World.drewN _) (Nat.add_assoc _ _ _))⟩)) | (go_at_call 41; (with_reducible refine (spec_debRun.calls kj5 (x1_1.extract (x5_3 : Int).toNat x1_1.size) t162 _ A29.out).mono ?_); rintro e w' ⟨rfl, ⟨nd, rfl⟩⟩; (try first | exact ⟨rfl, _, World.drewN_drewN _ _ _⟩ | exact ⟨rfl, _, Eq.trans (World.drewN_drewN _ _ _) (congrArg (World.drewN _) (Nat.add_assoc _ _ _))⟩)) | (go_at_call 42; (with_reducible refine (spec_orderNumbers.calls kj5 ((x0_1.extract (x5_3 : Int).toNat x0_1.size).extract 0 (t161 : Int).toNat) ((x1_1.extract (x5_3 : Int).toNat x1_1.size).extract 0 (t162 : Int).toNat) t163 _ A34.out).mono ?_); rintro e w' ⟨rfl, ⟨nd, rfl⟩⟩; (try first | exact ⟨rfl, _, World.drewN_drewN _ _ _⟩ | exact ⟨rfl, _, Eq.trans (World.drewN_drewN _ _ _) (congrArg (World.drewN _) (Nat.add_assoc _ _ _))⟩)))
                             repeat (go_quiet (first | (go_at_call 41; (with_reducible refine (spec_debRun.calls kj5 (x0_1.extract (x5_3 : Int).toNat x0_1.size) t161 _ A28.out).mono ?_); rintro e w' ⟨rfl, ⟨nd, rfl⟩⟩; (try first | exact ⟨rfl, _, World.drewN_drewN _ _ _⟩ | exact ⟨rfl, _, Eq.trans (World.drewN_drewN _ _ _) (congrArg (World.drewN _) (Nat.add_assoc _ _ _))⟩)) | (go_at_call 41; (with_reducible refine (spec_debRun.calls kj5 (x1_1.extract (x5_3 : Int).toNat x1_1.size) t162 _ A29.out).mono ?_); rintro e w' ⟨rfl, ⟨nd, rfl⟩⟩; (try first | exact ⟨rfl, _, World.drewN_drewN _ _ _⟩ | exact ⟨rfl, _, Eq.trans (World.drewN_drewN _ _ _) (congrArg (World.drewN _) (Nat.add_assoc _ _ _))⟩)) | (go_at_call 42; (with_reducible refine (spec_orderNumbers.calls kj5 ((x0_1.extract (x5_3 : Int).toNat x0_1.size).extract 0 (t161 : Int).toNat) ((x1_1.extract (x5_3 : Int).toNat x1_1.size).extract 0 (t162 : Int).toNat) t163 _ A34.out).mono ?_); rintro e w' ⟨rfl, ⟨nd, rfl⟩⟩; (try first | exact ⟨rfl, _, World.drewN_drewN _ _ _⟩ | exact ⟨rfl, _, Eq.trans (World.drewN_drewN _ _ _) (congrArg (World.drewN _) (Nat.add_assoc _ _ _))⟩))); try go_wp2_with (first | (go_at_call 41; (with_reducible refine (spec_debRun.calls kj5 (x0_1.extract (x5_3 : Int).toNat x0_1.size) t161 _ A28.out).mono ?_); rintro e w' ⟨rfl, ⟨nd, rfl⟩⟩; (try first | exact ⟨rfl, _, World.drewN_drewN _ _ _⟩ | exact ⟨rfl, _, Eq.trans (World.drewN_drewN _ _ _) (congrArg (World.drewN _) (Nat.add_assoc _ _ _))⟩)) | (go_at_call 41; (with_reducible refine (spec_debRun.calls kj5 (x1_1.extract (x5_3 : Int).toNat x1_1.size) t162 _ A29.out).mono ?_); rintro e w' ⟨rfl, ⟨nd, rfl⟩⟩; (try first | exact ⟨rfl, _, World.drewN_drewN _ _ _⟩ | exact ⟨rfl, _, Eq.trans (World.drewN_drewN _ _ _) (congrArg (World.drewN _) (Nat.add_assoc _ _ _))⟩)) | (go_at_call 42; (with_reducible refine (spec_orderNumbers.calls kj5 ((x0_1.extract (x5_3 : Int).toNat x0_1.size).extract 0 (t161 : Int).toNat) ((x1_1.extract (x5_3 : Int).toNat x1_1.size).extract 0 (t162 : Int).toNat) t163 _ A34.out).mono ?_); rintro e w' ⟨rfl, ⟨nd, rfl⟩⟩; (try first | exact ⟨rfl, _, World.drewN_drewN _ _ _⟩ | exact ⟨rfl, _, Eq.trans (World.drewN_drewN _ _ _) (congrArg (World.drewN _) (Nat.add_assoc _ _ _))⟩))))
                             go_ret
                             exact ⟨by first | rfl | (simp; done) | (simp [*]; done) | (simp [bne_nil_]; done), by repeat (first | exact Drawn0.refl _ | apply Drawn0.step)⟩
                         · rw [if_neg c33] at H
                           exact absurd H (by simp)
                       · rw [if_neg c32] at H
                         exact absurd H (by simp)
                     · rw [if_neg c31] at H
                       exact absurd H (by simp)
                   · rw [if_neg c30] at H
                     exact absurd H (by simp)
                 · rw [if_neg c27] at H
                   exact absurd H (by simp)
               · rw [if_neg c25] at H
                 exact absurd H (by simp)
             · rw [if_neg c24] at H
               exact absurd H (by simp)
     · replace c5 := Bool.eq_false_iff.mpr c5
       subst c5
       have H1 : (some 0) = some r := by rw [if_neg (show ¬ (false = true) by decide)] at H; exact H
       clear H
       have H := H1
       clear H1
       obtain rfl := Option.some.inj H
       go_wp2
       repeat (go_quiet (fail); try go_wp2)
       go_ret
       exact ⟨by first | rfl | (simp; done) | (simp [*]; done) | (simp [bne_nil_]; done), by repeat (first | exact Drawn0.refl _ | apply Drawn0.step)⟩

/-! ### spec_DebianCompare: function 14 -/
def spec_DebianCompare.j0 : Nat → Bool → Bool → ByteArray → ByteArray → ByteArray → Bool → ByteArray → ByteArray → ByteArray → Option (Int × Bool)
 | 0, _, _, _, _, _, _, _, _, _ => none
 | k + 1, x24, x170000, x170001, x170002, x170003, x176000, x176001, x176002, x176003 => if x24 = true then (some (0, false)) else ((spec_intOrder.f k x170000 x170001 x176000 x176001).bind fun t176 => (if t176 = 0 then ((spec_debParts.f k x170002 x176002).bind fun t177 => (if t177 = 0 then ((spec_debParts.f k x170003 x176003).bind fun t178 => (some (t178, true))) else (some (t177, true)))) else (some (t176, true))))
def spec_DebianCompare.f (k : Nat) (a0 : ByteArray) (a1 : ByteArray) : Option (Int × Bool) := (spec_DebianParse.f k a0).bind fun bt164 => ((spec_DebianParse.f k a1).bind fun bt170 => (if bt164.2.2.2.2 = true then (spec_DebianCompare.j0 k (!bt170.2.2.2.2) bt164.1 bt164.2.1 bt164.2.2.1 bt164.2.2.2.1 bt170.1 bt170.2.1 bt170.2.2.1 bt170.2.2.2.1) else (spec_DebianCompare.j0 k true bt164.1 bt164.2.1 bt164.2.2.1 bt164.2.2.2.1 bt170.1 bt170.2.1 bt170.2.2.1 bt170.2.2.2.1)))
theorem spec_DebianCompare.mono_l : ∀ k, (∀ y0 y1 y2 y3 y4 y5 y6 y7 y8, LeO (spec_DebianCompare.j0 k y0 y1 y2 y3 y4 y5 y6 y7 y8) (spec_DebianCompare.j0 (k + 1) y0 y1 y2 y3 y4 y5 y6 y7 y8))
 | 0 => fun _ _ _ _ _ _ _ _ _ r h => by simp [spec_DebianCompare.j0] at h
 | k + 1 => by
  have ih0 := spec_DebianCompare.mono_l k
  · intro y0 y1 y2 y3 y4 y5 y6 y7 y8
    unfold spec_DebianCompare.j0
    repeat' first
    | (with_reducible exact ih0 _ _ _ _ _ _ _ _ _)
    | (with_reducible exact spec_DebianParse.mono _ _)
    | (with_reducible exact spec_debParts.mono _ _ _)
    | (with_reducible exact spec_intOrder.mono _ _ _ _ _)
    | (with_reducible exact LeO.refl _)
    | (with_reducible exact LeO.none _)
    | (with_reducible refine LeO.ite ?_ ?_)
    | (with_reducible refine LeO.bind ?_ (fun _ => ?_))
    | exact ih0 _ _ _ _ _ _ _ _ _
    | exact spec_DebianParse.mono _ _
    | exact spec_debParts.mono _ _ _
    | exact spec_intOrder.mono _ _ _ _ _
    | exact LeO.none _
    | refine LeO.ite ?_ ?_
    | refine LeO.bind ?_ (fun _ => ?_)
theorem spec_DebianCompare.mono : ∀ a0 a1 k, LeO (spec_DebianCompare.f k a0 a1) (spec_DebianCompare.f (k + 1) a0 a1) := by
 intro a0 a1 k
 have ih0 := spec_DebianCompare.mono_l k
 unfold spec_DebianCompare.f
 repeat' first
  | (with_reducible exact ih0 _ _ _ _ _ _ _ _ _)
  | (with_reducible exact spec_DebianParse.mono _ _)
  | (with_reducible exact spec_debParts.mono _ _ _)
  | (with_reducible exact spec_intOrder.mono _ _ _ _ _)
  | (with_reducible exact LeO.refl _)
  | (with_reducible exact LeO.none _)
  | (with_reducible refine LeO.ite ?_ ?_)
  | (with_reducible refine LeO.bind ?_ (fun _ => ?_))
  | exact ih0 _ _ _ _ _ _ _ _ _
  | exact spec_DebianParse.mono _ _
  | exact spec_debParts.mono _ _ _
  | exact spec_intOrder.mono _ _ _ _ _
  | exact LeO.none _
  | refine LeO.ite ?_ ?_
  | refine LeO.bind ?_ (fun _ => ?_)
set_option maxHeartbeats 8000000 in
set_option maxRecDepth 100000 in
theorem spec_DebianCompare.calls (k : Nat) (a0 : ByteArray) (a1 : ByteArray) (r1 : Int) (r2 : Bool) (w : World) (h : spec_DebianCompare.f k a0 a1 = some (r1, r2)) :
 Calls Tryd.prog 14 #[.string a0, .string a1] w fun e w' => e = .returned (.tuple #[.int .i64 r1, .bool r2]) ∧ Below w.heap.size w w' := by
 have hu27 := Tryd.underlying27
 have hu25 := Tryd.underlying25
 have HB := Aside0.mk (Below.refl w.heap.size w)
 have H : ((spec_DebianParse.f k a0).bind fun bt164 => ((spec_DebianParse.f k a1).bind fun bt170 => (if bt164.2.2.2.2 = true then (spec_DebianCompare.j0 k (!bt170.2.2.2.2) bt164.1 bt164.2.1 bt164.2.2.1 bt164.2.2.2.1 bt170.1 bt170.2.1 bt170.2.2.1 bt170.2.2.2.1) else (spec_DebianCompare.j0 k true bt164.1 bt164.2.1 bt164.2.2.1 bt164.2.2.2.1 bt170.1 bt170.2.1 bt170.2.2.1 bt170.2.2.2.1)))) = some (r1, r2) := h
 clear h
 replace H := Option.bind_eq_some_iff.mp H
 obtain ⟨⟨t164, t165, t166, t167, t168⟩, A30, H⟩ := H
 replace H : ((spec_DebianParse.f k a1).bind fun bt170 => (if t168 = true then (spec_DebianCompare.j0 k (!bt170.2.2.2.2) t164 t165 t166 t167 bt170.1 bt170.2.1 bt170.2.2.1 bt170.2.2.2.1) else (spec_DebianCompare.j0 k true t164 t165 t166 t167 bt170.1 bt170.2.1 bt170.2.2.1 bt170.2.2.2.1))) = some (r1, r2) := H
 have A3 := Aside0.mk A30
 clear A30
 replace H := Option.bind_eq_some_iff.mp H
 obtain ⟨⟨t170, t171, t172, t173, t174⟩, A40, H⟩ := H
 replace H : (if t168 = true then (spec_DebianCompare.j0 k (!t174) t164 t165 t166 t167 t170 t171 t172 t173) else (spec_DebianCompare.j0 k true t164 t165 t166 t167 t170 t171 t172 t173)) = some (r1, r2) := H
 have A4 := Aside0.mk A40
 clear A40
 have HC5 := Aside0.mk H
 clear H
 go_enter Tryd.func14, Tryd.ntmps14
 go_upto_region 3 with (first | ((with_reducible refine gate_callee (f := 10) rfl ?_); refine goesL_ (some 11) rfl rfl Tryd.func10 (by kernel_rfl) rfl #[.string a0] rfl (by (try simp only [List.map_toArray, List.map_cons, List.map_nil]); first | done | rfl | (simp only [List.length_drop, List.length_take]; rfl)) ?_; (with_reducible refine (spec_DebianParse.calls k a0 t164 t165 t166 t167 t168 _ A3.out).mono ?_); rintro e w6 ⟨rfl, hb⟩; refine ⟨_, rfl, ?_⟩; have n0_ := Aside0.mk (below_step (by repeat (first | (with_reducible first | exact HB.out | apply below_alloc | apply pw_below_drewN | apply below_drew1) | exact HB.out)) hb); clear HB; have HB := n0_; clear n0_; (try clear hb); (try clear hb2); (try clear hk); (try clear hi)) | ((with_reducible refine gate_dst (N := 6) rfl ?_); refine box_event ?hg (N := 6) ?hd (cs := #[.bool false, .string (⟨#[]⟩ : ByteArray), .string (⟨#[]⟩ : ByteArray), .string (⟨#[]⟩ : ByteArray)]) (t := 27) ?hr ?_; (case hd => rfl); (case hg => rfl); (case hr => first | (go_simp; done) | (go_simp; rfl)); intro gb169 hg w7 hbox hb; have n0_ := Aside0.mk (below_step (by repeat (first | (with_reducible first | exact HB.out | apply below_alloc | apply pw_below_drewN | apply below_drew1) | exact HB.out)) hb); have n1_ := Aside0.mk (hbox); have n2_ := Aside0.mk ((by rw [hg]; exact (below_size (by repeat (first | (with_reducible first | exact HB.out | apply below_alloc | apply pw_below_drewN | apply below_drew1) | exact HB.out))) : w.heap.size ≤ gb169)); have n3_ := Aside0.mk ((by rw [hg]; exact (below_size (by repeat (first | (with_reducible first | exact HB.out | apply below_alloc | apply pw_below_drewN | apply below_drew1) | exact HB.out))) : w.heap.size ≤ gb169)); clear HB; have HB := n0_; have BK169 := n1_; have GW169 := n2_; have GE169 := n3_; clear n0_ n1_ n2_ n3_; clear hb hbox hg; have hcz8_0 : w7.cell? ⟨gb169, 0, none⟩ = some (.bool false) := (blk_cell BK169.out 0).trans rfl; have hcz8_1 : w7.cell? ⟨gb169, 1, none⟩ = some (.string (⟨#[]⟩ : ByteArray)) := (blk_cell BK169.out 1).trans rfl; have hcz8_2 : w7.cell? ⟨gb169, 2, none⟩ = some (.string (⟨#[]⟩ : ByteArray)) := (blk_cell BK169.out 2).trans rfl; have hcz8_3 : w7.cell? ⟨gb169, 3, none⟩ = some (.string (⟨#[]⟩ : ByteArray)) := (blk_cell BK169.out 3).trans rfl; have hfz8_0 := blk_frozen BK169.out 0; have hfz8_1 := blk_frozen BK169.out 1; have hfz8_2 := blk_frozen BK169.out 2; have hfz8_3 := blk_frozen BK169.out 3) | ((with_reducible refine gate_callee (f := 10) rfl ?_); refine goesL_ (some 16) rfl rfl Tryd.func10 (by kernel_rfl) rfl #[.string a1] rfl (by (try simp only [List.map_toArray, List.map_cons, List.map_nil]); first | done | rfl | (simp only [List.length_drop, List.length_take]; rfl)) ?_; (with_reducible refine (spec_DebianParse.calls k a1 t170 t171 t172 t173 t174 _ A4.out).mono ?_); rintro e w9 ⟨rfl, hb⟩; refine ⟨_, rfl, ?_⟩; have n0_ := Aside0.mk (blk_below (g := gb169) (o := .cells #[.bool t164, .string t165, .string t166, .string t167] 27 (0, 0)) (by (with_reducible repeat (first | refine blk_drewN ?_ _ | refine blk_drew ?_ | refine blk_alloc ?_ _)); refine blk_put (cs := #[.bool t164, .string t165, .string t166, .string (⟨#[]⟩ : ByteArray)]) ?_ 3 _ rfl; (with_reducible repeat (first | refine blk_drewN ?_ _ | refine blk_drew ?_ | refine blk_alloc ?_ _)); refine blk_put (cs := #[.bool t164, .string t165, .string (⟨#[]⟩ : ByteArray), .string (⟨#[]⟩ : ByteArray)]) ?_ 2 _ rfl; (with_reducible repeat (first | refine blk_drewN ?_ _ | refine blk_drew ?_ | refine blk_alloc ?_ _)); refine blk_put (cs := #[.bool t164, .string (⟨#[]⟩ : ByteArray), .string (⟨#[]⟩ : ByteArray), .string (⟨#[]⟩ : ByteArray)]) ?_ 1 _ rfl; (with_reducible repeat (first | refine blk_drewN ?_ _ | refine blk_drew ?_ | refine blk_alloc ?_ _)); refine blk_put (cs := #[.bool false, .string (⟨#[]⟩ : ByteArray), .string (⟨#[]⟩ : ByteArray), .string (⟨#[]⟩ : ByteArray)]) ?_ 0 _ rfl; (with_reducible repeat (first | refine blk_drewN ?_ _ | refine blk_drew ?_ | refine blk_alloc ?_ _)); exact BK169.out) hb); have n1_ := Aside0.mk (below_step (by repeat (first | (with_reducible first | exact HB.out | apply below_alloc | apply pw_below_drewN | apply below_drew1 | refine below_set ?_ GE169.out) | exact HB.out)) hb); clear BK169; clear HB; have BK169 := n0_; have HB := n1_; clear n0_ n1_; (try clear hb); (try clear hb2); (try clear hk); (try clear hi)) | ((with_reducible refine gate_dst (N := 7) rfl ?_); refine box_event ?hg (N := 7) ?hd (cs := #[.bool false, .string (⟨#[]⟩ : ByteArray), .string (⟨#[]⟩ : ByteArray), .string (⟨#[]⟩ : ByteArray)]) (t := 27) ?hr ?_; (case hd => rfl); (case hg => rfl); (case hr => first | (go_simp; done) | (go_simp; rfl)); intro gb175 hg w10 hbox hb; have n0_ := Aside0.mk (blk_below (g := gb169) (o := .cells #[.bool t164, .string t165, .string t166, .string t167] 27 (0, 0)) (by (with_reducible repeat (first | refine blk_drewN ?_ _ | refine blk_drew ?_ | refine blk_alloc ?_ _)); exact BK169.out) hb); have n1_ := Aside0.mk (below_step (by repeat (first | (with_reducible first | exact HB.out | apply below_alloc | apply pw_below_drewN | apply below_drew1 | refine below_set ?_ GE169.out) | exact HB.out)) hb); have n2_ := Aside0.mk (hbox); have n3_ := Aside0.mk ((by rw [hg]; exact (below_size (by repeat (first | (with_reducible first | exact HB.out | apply below_alloc | apply pw_below_drewN | apply below_drew1 | refine below_set ?_ GE169.out) | exact HB.out))) : w.heap.size ≤ gb175)); have n4_ := Aside0.mk ((by rw [hg]; exact (below_size (by repeat (first | (with_reducible first | exact HB.out | apply below_alloc | apply pw_below_drewN | apply below_drew1 | refine below_set ?_ GE169.out) | exact HB.out))) : w.heap.size ≤ gb175)); have n5_ := Aside0.mk ((by rw [hg]; exact Nat.ne_of_lt (blk_lt (g := gb169) (o := .cells #[.bool t164, .string t165, .string t166, .string t167] 27 (0, 0)) (by (with_reducible repeat (first | refine blk_drewN ?_ _ | refine blk_drew ?_ | refine blk_alloc ?_ _)); exact BK169.out)) : gb169 ≠ gb175)); have n6_ := Aside0.mk ((by rw [hg]; exact Nat.ne_of_gt (blk_lt (g := gb169) (o := .cells #[.bool t164, .string t165, .string t166, .string t167] 27 (0, 0)) (by (with_reducible repeat (first | refine blk_drewN ?_ _ | refine blk_drew ?_ | refine blk_alloc ?_ _)); exact BK169.out)) : gb175 ≠ gb169)); clear BK169; clear HB; have BK169 := n0_; have HB := n1_; have BK175 := n2_; have GW175 := n3_; have GE175 := n4_; have NB169_175 := n5_; have NB175_169 := n6_; clear n0_ n1_ n2_ n3_ n4_ n5_ n6_; clear hb hbox hg; have hnb11 := NB175_169.out; have hnc11 := NB169_175.out; have hcz12_0 : w10.cell? ⟨gb175, 0, none⟩ = some (.bool false) := (blk_cell BK175.out 0).trans rfl; have hcz12_1 : w10.cell? ⟨gb175, 1, none⟩ = some (.string (⟨#[]⟩ : ByteArray)) := (blk_cell BK175.out 1).trans rfl; have hcz12_2 : w10.cell? ⟨gb175, 2, none⟩ = some (.string (⟨#[]⟩ : ByteArray)) := (blk_cell BK175.out 2).trans rfl; have hcz12_3 : w10.cell? ⟨gb175, 3, none⟩ = some (.string (⟨#[]⟩ : ByteArray)) := (blk_cell BK175.out 3).trans rfl; have hfz12_0 := blk_frozen BK175.out 0; have hfz12_1 := blk_frozen BK175.out 1; have hfz12_2 := blk_frozen BK175.out 2; have hfz12_3 := blk_frozen BK175.out 3))
 (try simp only [Act.put, List.setIfInBounds_toArray, List.set_cons_zero, List.set_cons_succ])
 go_cut [24] (fun v24 wc => ∃ (kq : Nat) (x24_4 : Bool), v24 = .bool x24_4 ∧ Aside0 (spec_DebianCompare.j0 kq x24_4 t164 t165 t166 t167 t170 t171 t172 t173 = some (r1, r2)) ∧ Aside0 (kq ≤ k) ∧ Aside0 (wc.heap[gb169]? = some (.cells #[.bool t164, .string t165, .string t166, .string t167] 27 (0, 0))) ∧ Aside0 (wc.heap[gb175]? = some (.cells #[.bool t170, .string t171, .string t172, .string t173] 27 (0, 0))) ∧ Aside0 (Below w.heap.size w wc))
 case first =>
  have H := HC5.out
  clear HC5
  by_cases c13 : t168 = true
  · subst c13
    have H1 : (spec_DebianCompare.j0 k (!t174) t164 t165 t166 t167 t170 t171 t172 t173) = some (r1, r2) := by rw [if_pos rfl] at H; exact H
    clear H
    have H := H1
    clear H1
    have H' := Aside0.mk H
    clear H
    go_wp2
    go_meet
    case rel => exact ⟨_, (!t174), (by first | rfl | (simp; done) | (simp [*]; done) | (simp [bne_nil_]; done)), H', ⟨by first | omega | exact Nat.le_refl _⟩, ⟨by (with_reducible repeat (first | refine blk_drewN ?_ _ | refine blk_drew ?_ | refine blk_alloc ?_ _)); refine blk_far ?_ NB169_175.out _; (with_reducible repeat (first | refine blk_drewN ?_ _ | refine blk_drew ?_ | refine blk_alloc ?_ _)); refine blk_far ?_ NB169_175.out _; (with_reducible repeat (first | refine blk_drewN ?_ _ | refine blk_drew ?_ | refine blk_alloc ?_ _)); refine blk_far ?_ NB169_175.out _; (with_reducible repeat (first | refine blk_drewN ?_ _ | refine blk_drew ?_ | refine blk_alloc ?_ _)); refine blk_far ?_ NB169_175.out _; (with_reducible repeat (first | refine blk_drewN ?_ _ | refine blk_drew ?_ | refine blk_alloc ?_ _)); exact BK169.out⟩, ⟨by (with_reducible repeat (first | refine blk_drewN ?_ _ | refine blk_drew ?_ | refine blk_alloc ?_ _)); refine blk_put (cs := #[.bool t170, .string t171, .string t172, .string (⟨#[]⟩ : ByteArray)]) ?_ 3 _ rfl; (with_reducible repeat (first | refine blk_drewN ?_ _ | refine blk_drew ?_ | refine blk_alloc ?_ _)); refine blk_put (cs := #[.bool t170, .string t171, .string (⟨#[]⟩ : ByteArray), .string (⟨#[]⟩ : ByteArray)]) ?_ 2 _ rfl; (with_reducible repeat (first | refine blk_drewN ?_ _ | refine blk_drew ?_ | refine blk_alloc ?_ _)); refine blk_put (cs := #[.bool t170, .string (⟨#[]⟩ : ByteArray), .string (⟨#[]⟩ : ByteArray), .string (⟨#[]⟩ : ByteArray)]) ?_ 1 _ rfl; (with_reducible repeat (first | refine blk_drewN ?_ _ | refine blk_drew ?_ | refine blk_alloc ?_ _)); refine blk_put (cs := #[.bool false, .string (⟨#[]⟩ : ByteArray), .string (⟨#[]⟩ : ByteArray), .string (⟨#[]⟩ : ByteArray)]) ?_ 0 _ rfl; (with_reducible repeat (first | refine blk_drewN ?_ _ | refine blk_drew ?_ | refine blk_alloc ?_ _)); exact BK175.out⟩, ⟨by repeat (first | (with_reducible first | exact HB.out | apply below_alloc | apply pw_below_drewN | apply below_drew1 | refine below_set ?_ GE169.out | refine below_set ?_ GE175.out) | exact HB.out)⟩⟩
  · replace c13 := Bool.eq_false_iff.mpr c13
    subst c13
    have H1 : (spec_DebianCompare.j0 k true t164 t165 t166 t167 t170 t171 t172 t173) = some (r1, r2) := by rw [if_neg (show ¬ (false = true) by decide)] at H; exact H
    clear H
    have H := H1
    clear H1
    have H' := Aside0.mk H
    clear H
    go_wp2
    go_meet
    case rel => exact ⟨_, (true), (by first | rfl | (simp; done) | (simp [*]; done) | (simp [bne_nil_]; done)), H', ⟨by first | omega | exact Nat.le_refl _⟩, ⟨by (with_reducible repeat (first | refine blk_drewN ?_ _ | refine blk_drew ?_ | refine blk_alloc ?_ _)); refine blk_far ?_ NB169_175.out _; (with_reducible repeat (first | refine blk_drewN ?_ _ | refine blk_drew ?_ | refine blk_alloc ?_ _)); refine blk_far ?_ NB169_175.out _; (with_reducible repeat (first | refine blk_drewN ?_ _ | refine blk_drew ?_ | refine blk_alloc ?_ _)); refine blk_far ?_ NB169_175.out _; (with_reducible repeat (first | refine blk_drewN ?_ _ | refine blk_drew ?_ | refine blk_alloc ?_ _)); refine blk_far ?_ NB169_175.out _; (with_reducible repeat (first | refine blk_drewN ?_ _ | refine blk_drew ?_ | refine blk_alloc ?_ _)); exact BK169.out⟩, ⟨by (with_reducible repeat (first | refine blk_drewN ?_ _ | refine blk_drew ?_ | refine blk_alloc ?_ _)); refine blk_put (cs := #[.bool t170, .string t171, .string t172, .string (⟨#[]⟩ : ByteArray)]) ?_ 3 _ rfl; (with_reducible repeat (first | refine blk_drewN ?_ _ | refine blk_drew ?_ | refine blk_alloc ?_ _)); refine blk_put (cs := #[.bool t170, .string t171, .string (⟨#[]⟩ : ByteArray), .string (⟨#[]⟩ : ByteArray)]) ?_ 2 _ rfl; (with_reducible repeat (first | refine blk_drewN ?_ _ | refine blk_drew ?_ | refine blk_alloc ?_ _)); refine blk_put (cs := #[.bool t170, .string (⟨#[]⟩ : ByteArray), .string (⟨#[]⟩ : ByteArray), .string (⟨#[]⟩ : ByteArray)]) ?_ 1 _ rfl; (with_reducible repeat (first | refine blk_drewN ?_ _ | refine blk_drew ?_ | refine blk_alloc ?_ _)); refine blk_put (cs := #[.bool false, .string (⟨#[]⟩ : ByteArray), .string (⟨#[]⟩ : ByteArray), .string (⟨#[]⟩ : ByteArray)]) ?_ 0 _ rfl; (with_reducible repeat (first | refine blk_drewN ?_ _ | refine blk_drew ?_ | refine blk_alloc ?_ _)); exact BK175.out⟩, ⟨by repeat (first | (with_reducible first | exact HB.out | apply below_alloc | apply pw_below_drewN | apply below_drew1 | refine below_set ?_ GE169.out | refine below_set ?_ GE175.out) | exact HB.out)⟩⟩
 case rest =>
  clear HC5
  try clear c1
  try clear p2
  try clear c10
  try clear c11
  try clear c13
  try clear hcz12_0
  try clear hcz12_1
  try clear hcz12_2
  try clear hcz12_3
  try clear hcz8_0
  try clear hcz8_1
  try clear hcz8_2
  try clear hcz8_3
  try clear hfz12_0
  try clear hfz12_1
  try clear hfz12_2
  try clear hfz12_3
  try clear hfz8_0
  try clear hfz8_1
  try clear hfz8_2
  try clear hfz8_3
  obtain ⟨kq, x24_4, rfl, HA, HJ4, BK169, BK175, HB⟩ := hcut
  cases kq with
  | zero => exact absurd HA.out (by simp [spec_DebianCompare.j0])
  | succ kj4 =>
   have H := HA.out
   clear HA
   simp only [spec_DebianCompare.j0] at H
   by_cases c14 : x24_4 = true
   · subst c14
     have H1 : (some (0, false)) = some (r1, r2) := by rw [if_pos rfl] at H; exact H
     clear H
     have H := H1
     clear H1
     simp only [Option.some.injEq, Prod.mk.injEq] at H
     obtain ⟨rfl, rfl⟩ := H
     go_wp2
     go_ret2
     exact ⟨by first | rfl | (simp [errW_none, errW_some] <;> rfl) | (simp [*, errW_none, errW_some] <;> rfl) | (simp [bne_nil_]; done), by repeat (first | (with_reducible first | exact HB.out | apply below_alloc | apply pw_below_drewN | apply below_drew1 | refine below_set ?_ GE169.out | refine below_set ?_ GE175.out) | exact HB.out)⟩
   · replace c14 := Bool.eq_false_iff.mpr c14
     subst c14
     have H1 : ((spec_intOrder.f kj4 t164 t165 t170 t171).bind fun t176 => (if t176 = 0 then ((spec_debParts.f kj4 t166 t172).bind fun t177 => (if t177 = 0 then ((spec_debParts.f kj4 t167 t173).bind fun t178 => (some (t178, true))) else (some (t177, true)))) else (some (t176, true)))) = some (r1, r2) := by rw [if_neg (show ¬ (false = true) by decide)] at H; exact H
     clear H
     have H := H1
     clear H1
     replace H := Option.bind_eq_some_iff.mp H
     obtain ⟨t176, A150, H⟩ := H
     replace H : (if t176 = 0 then ((spec_debParts.f kj4 t166 t172).bind fun t177 => (if t177 = 0 then ((spec_debParts.f kj4 t167 t173).bind fun t178 => (some (t178, true))) else (some (t177, true)))) else (some (t176, true))) = some (r1, r2) := H
     have A15 := Aside0.mk A150
     clear A150
     by_cases c16 : t176 = 0
     · rw [if_pos c16] at H
       have c16b0 : (t176 == 0) = true := beq_iff_eq.mpr c16
       have c16b1 : (t176 != 0) = false := bne_eq_false_iff_eq.mpr c16
       clear c16
       replace H := Option.bind_eq_some_iff.mp H
       obtain ⟨t177, A170, H⟩ := H
       replace H : (if t177 = 0 then ((spec_debParts.f kj4 t167 t173).bind fun t178 => (some (t178, true))) else (some (t177, true))) = some (r1, r2) := H
       have A17 := Aside0.mk A170
       clear A170
       by_cases c18 : t177 = 0
       · rw [if_pos c18] at H
         have c18b0 : (t177 == 0) = true := beq_iff_eq.mpr c18
         have c18b1 : (t177 != 0) = false := bne_eq_false_iff_eq.mpr c18
         clear c18
         replace H := Option.bind_eq_some_iff.mp H
         obtain ⟨t178, A190, H⟩ := H
         replace H : (some (t178, true)) = some (r1, r2) := H
         have A19 := Aside0.mk A190
         clear A190
         simp only [Option.some.injEq, Prod.mk.injEq] at H
         obtain ⟨rfl, rfl⟩ := H
         have hnb20 := NB169_175.out
         have hnc20 := NB175_169.out
         have hcz21_0 : wc.cell? ⟨gb169, 0, none⟩ = some (.bool t164) := (blk_cell BK169.out 0).trans rfl
         have hcz21_1 : wc.cell? ⟨gb169, 1, none⟩ = some (.string t165) := (blk_cell BK169.out 1).trans rfl
         have hcz21_2 : wc.cell? ⟨gb169, 2, none⟩ = some (.string t166) := (blk_cell BK169.out 2).trans rfl
         have hcz21_3 : wc.cell? ⟨gb169, 3, none⟩ = some (.string t167) := (blk_cell BK169.out 3).trans rfl
         have hfz21_0 := blk_frozen BK169.out 0
         have hfz21_1 := blk_frozen BK169.out 1
         have hfz21_2 := blk_frozen BK169.out 2
         have hfz21_3 := blk_frozen BK169.out 3
         have hcz22_0 : wc.cell? ⟨gb175, 0, none⟩ = some (.bool t170) := (blk_cell BK175.out 0).trans rfl
         have hcz22_1 : wc.cell? ⟨gb175, 1, none⟩ = some (.string t171) := (blk_cell BK175.out 1).trans rfl
         have hcz22_2 : wc.cell? ⟨gb175, 2, none⟩ = some (.string t172) := (blk_cell BK175.out 2).trans rfl
         have hcz22_3 : wc.cell? ⟨gb175, 3, none⟩ = some (.string t173) := (blk_cell BK175.out 3).trans rfl
         have hfz22_0 := blk_frozen BK175.out 0
         have hfz22_1 := blk_frozen BK175.out 1
         have hfz22_2 := blk_frozen BK175.out 2
         have hfz22_3 := blk_frozen BK175.out 3
         go_wp2_with (first | ((with_reducible refine gate_callee (f := 24) rfl ?_); refine goesL_ (some 29) rfl rfl Tryd.func24 (by kernel_rfl) rfl #[.agg #[.bool t164, .string t165], .agg #[.bool t170, .string t171]] rfl (by (try simp only [List.map_toArray, List.map_cons, List.map_nil]); first | done | rfl | (simp only [List.length_drop, List.length_take]; rfl)) ?_; (with_reducible refine (spec_intOrder.calls kj4 t164 t165 t170 t171 t176 _ A15.out).mono ?_); rintro e w23 ⟨rfl, hb⟩; refine ⟨_, rfl, ?_⟩; have n0_ := Aside0.mk (blk_below (g := gb169) (o := .cells #[.bool t164, .string t165, .string t166, .string t167] 27 (0, 0)) (by (with_reducible repeat (first | refine blk_drewN ?_ _ | refine blk_drew ?_ | refine blk_alloc ?_ _)); exact BK169.out) hb); have n1_ := Aside0.mk (blk_below (g := gb175) (o := .cells #[.bool t170, .string t171, .string t172, .string t173] 27 (0, 0)) (by (with_reducible repeat (first | refine blk_drewN ?_ _ | refine blk_drew ?_ | refine blk_alloc ?_ _)); exact BK175.out) hb); have n2_ := Aside0.mk (below_step (by repeat (first | (with_reducible first | exact HB.out | apply below_alloc | apply pw_below_drewN | apply below_drew1 | refine below_set ?_ GE169.out | refine below_set ?_ GE175.out) | exact HB.out)) hb); clear BK169; clear BK175; clear HB; have BK169 := n0_; have BK175 := n1_; have HB := n2_; clear n0_ n1_ n2_; (try clear hb); (try clear hb2); (try clear hk); (try clear hi); have hcz24_0 : w23.cell? ⟨gb169, 0, none⟩ = some (.bool t164) := (blk_cell BK169.out 0).trans rfl; have hcz24_1 : w23.cell? ⟨gb169, 1, none⟩ = some (.string t165) := (blk_cell BK169.out 1).trans rfl; have hcz24_2 : w23.cell? ⟨gb169, 2, none⟩ = some (.string t166) := (blk_cell BK169.out 2).trans rfl; have hcz24_3 : w23.cell? ⟨gb169, 3, none⟩ = some (.string t167) := (blk_cell BK169.out 3).trans rfl; have hfz24_0 := blk_frozen BK169.out 0; have hfz24_1 := blk_frozen BK169.out 1; have hfz24_2 := blk_frozen BK169.out 2; have hfz24_3 := blk_frozen BK169.out 3; have hcz25_0 : w23.cell? ⟨gb175, 0, none⟩ = some (.bool t170) := (blk_cell BK175.out 0).trans rfl; have hcz25_1 : w23.cell? ⟨gb175, 1, none⟩ = some (.string t171) := (blk_cell BK175.out 1).trans rfl; have hcz25_2 : w23.cell? ⟨gb175, 2, none⟩ = some (.string t172) := (blk_cell BK175.out 2).trans rfl; have hcz25_3 : w23.cell? ⟨gb175, 3, none⟩ = some (.string t173) := (blk_cell BK175.out 3).trans rfl; have hfz25_0 := blk_frozen BK175.out 0; have hfz25_1 := blk_frozen BK175.out 1; have hfz25_2 := blk_frozen BK175.out 2; have hfz25_3 := blk_frozen BK175.out 3) | ((with_reducible refine gate_callee (f := 25) rfl ?_); refine goesL_ (some 36) rfl rfl Tryd.func25 (by kernel_rfl) rfl #[.string t166, .string t172] rfl (by (try simp only [List.map_toArray, List.map_cons, List.map_nil]); first | done | rfl | (simp only [List.length_drop, List.length_take]; rfl)) ?_; (with_reducible refine (spec_debParts.calls kj4 t166 t172 t177 _ A17.out).mono ?_); rintro e w' ⟨rfl, ⟨nd, rfl⟩⟩; refine ⟨_, rfl, ?_⟩) | ((with_reducible refine gate_callee (f := 25) rfl ?_); refine goesL_ (some 43) rfl rfl Tryd.func25 (by kernel_rfl) rfl #[.string t167, .string t173] rfl (by (try simp only [List.map_toArray, List.map_cons, List.map_nil]); first | done | rfl | (simp only [List.length_drop, List.length_take]; rfl)) ?_; (with_reducible refine (spec_debParts.calls kj4 t167 t173 t178 _ A19.out).mono ?_); rintro e w' ⟨rfl, ⟨nd, rfl⟩⟩; refine ⟨_, rfl, ?_⟩))
         go_ret2
         exact ⟨by first | rfl | (simp [errW_none, errW_some] <;> rfl) | (simp [*, errW_none, errW_some] <;> rfl) | (simp [bne_nil_]; done), by repeat (first | (with_reducible first | exact HB.out | apply below_alloc | apply pw_below_drewN | apply below_drew1 | refine below_set ?_ GE169.out | refine below_set ?_ GE175.out) | exact HB.out)⟩
       · rw [if_neg c18] at H
         have c18b0 : (t177 == 0) = false := beq_eq_false_iff_ne.mpr c18
         have c18b1 : (t177 != 0) = true := bne_iff_ne.mpr c18
         simp only [Option.some.injEq, Prod.mk.injEq] at H
         obtain ⟨rfl, rfl⟩ := H
         have hnb26 := NB169_175.out
         have hnc26 := NB175_169.out
         have hcz27_0 : wc.cell? ⟨gb169, 0, none⟩ = some (.bool t164) := (blk_cell BK169.out 0).trans rfl
         have hcz27_1 : wc.cell? ⟨gb169, 1, none⟩ = some (.string t165) := (blk_cell BK169.out 1).trans rfl
         have hcz27_2 : wc.cell? ⟨gb169, 2, none⟩ = some (.string t166) := (blk_cell BK169.out 2).trans rfl
         have hcz27_3 : wc.cell? ⟨gb169, 3, none⟩ = some (.string t167) := (blk_cell BK169.out 3).trans rfl
         have hfz27_0 := blk_frozen BK169.out 0
         have hfz27_1 := blk_frozen BK169.out 1
         have hfz27_2 := blk_frozen BK169.out 2
         have hfz27_3 := blk_frozen BK169.out 3
         have hcz28_0 : wc.cell? ⟨gb175, 0, none⟩ = some (.bool t170) := (blk_cell BK175.out 0).trans rfl
         have hcz28_1 : wc.cell? ⟨gb175, 1, none⟩ = some (.string t171) := (blk_cell BK175.out 1).trans rfl
         have hcz28_2 : wc.cell? ⟨gb175, 2, none⟩ = some (.string t172) := (blk_cell BK175.out 2).trans rfl
         have hcz28_3 : wc.cell? ⟨gb175, 3, none⟩ = some (.string t173) := (blk_cell BK175.out 3).trans rfl
         have hfz28_0 := blk_frozen BK175.out 0
         have hfz28_1 := blk_frozen BK175.out 1
         have hfz28_2 := blk_frozen BK175.out 2
         have hfz28_3 := blk_frozen BK175.out 3
         go_wp2_with (first | ((with_reducible refine gate_callee (f := 24) rfl ?_); refine goesL_ (some 29) rfl rfl Tryd.func24 (by kernel_rfl) rfl #[.agg #[.bool t164, .string t165], .agg #[.bool t170, .string t171]] rfl (by (try simp only [List.map_toArray, List.map_cons, List.map_nil]); first | done | rfl | (simp only [List.length_drop, List.length_take]; rfl)) ?_; (with_reducible refine (spec_intOrder.calls kj4 t164 t165 t170 t171 t176 _ A15.out).mono ?_); rintro e w29 ⟨rfl, hb⟩; refine ⟨_, rfl, ?_⟩; have n0_ := Aside0.mk (blk_below (g := gb169) (o := .cells #[.bool t164, .string t165, .string t166, .string t167] 27 (0, 0)) (by (with_reducible repeat (first | refine blk_drewN ?_ _ | refine blk_drew ?_ | refine blk_alloc ?_ _)); exact BK169.out) hb); have n1_ := Aside0.mk (blk_below (g := gb175) (o := .cells #[.bool t170, .string t171, .string t172, .string t173] 27 (0, 0)) (by (with_reducible repeat (first | refine blk_drewN ?_ _ | refine blk_drew ?_ | refine blk_alloc ?_ _)); exact BK175.out) hb); have n2_ := Aside0.mk (below_step (by repeat (first | (with_reducible first | exact HB.out | apply below_alloc | apply pw_below_drewN | apply below_drew1 | refine below_set ?_ GE169.out | refine below_set ?_ GE175.out) | exact HB.out)) hb); clear BK169; clear BK175; clear HB; have BK169 := n0_; have BK175 := n1_; have HB := n2_; clear n0_ n1_ n2_; (try clear hb); (try clear hb2); (try clear hk); (try clear hi); have hcz30_0 : w29.cell? ⟨gb169, 0, none⟩ = some (.bool t164) := (blk_cell BK169.out 0).trans rfl; have hcz30_1 : w29.cell? ⟨gb169, 1, none⟩ = some (.string t165) := (blk_cell BK169.out 1).trans rfl; have hcz30_2 : w29.cell? ⟨gb169, 2, none⟩ = some (.string t166) := (blk_cell BK169.out 2).trans rfl; have hcz30_3 : w29.cell? ⟨gb169, 3, none⟩ = some (.string t167) := (blk_cell BK169.out 3).trans rfl; have hfz30_0 := blk_frozen BK169.out 0; have hfz30_1 := blk_frozen BK169.out 1; have hfz30_2 := blk_frozen BK169.out 2; have hfz30_3 := blk_frozen BK169.out 3; have hcz31_0 : w29.cell? ⟨gb175, 0, none⟩ = some (.bool t170) := (blk_cell BK175.out 0).trans rfl; have hcz31_1 : w29.cell? ⟨gb175, 1, none⟩ = some (.string t171) := (blk_cell BK175.out 1).trans rfl; have hcz31_2 : w29.cell? ⟨gb175, 2, none⟩ = some (.string t172) := (blk_cell BK175.out 2).trans rfl; have hcz31_3 : w29.cell? ⟨gb175, 3, none⟩ = some (.string t173) := (blk_cell BK175.out 3).trans rfl; have hfz31_0 := blk_frozen BK175.out 0; have hfz31_1 := blk_frozen BK175.out 1; have hfz31_2 := blk_frozen BK175.out 2; have hfz31_3 := blk_frozen BK175.out 3) | ((with_reducible refine gate_callee (f := 25) rfl ?_); refine goesL_ (some 36) rfl rfl Tryd.func25 (by kernel_rfl) rfl #[.string t166, .string t172] rfl (by (try simp only [List.map_toArray, List.map_cons, List.map_nil]); first | done | rfl | (simp only [List.length_drop, List.length_take]; rfl)) ?_; (with_reducible refine (spec_debParts.calls kj4 t166 t172 t177 _ A17.out).mono ?_); rintro e w' ⟨rfl, ⟨nd, rfl⟩⟩; refine ⟨_, rfl, ?_⟩))
         go_ret2
         exact ⟨by first | rfl | (simp [errW_none, errW_some] <;> rfl) | (simp [*, errW_none, errW_some] <;> rfl) | (simp [bne_nil_]; done), by repeat (first | (with_reducible first | exact HB.out | apply below_alloc | apply pw_below_drewN | apply below_drew1 | refine below_set ?_ GE169.out | refine below_set ?_ GE175.out) | exact HB.out)⟩
     · rw [if_neg c16] at H
       have c16b0 : (t176 == 0) = false := beq_eq_false_iff_ne.mpr c16
       have c16b1 : (t176 != 0) = true := bne_iff_ne.mpr c16
       simp only [Option.some.injEq, Prod.mk.injEq] at H
       obtain ⟨rfl, rfl⟩ := H
       have hnb32 := NB169_175.out
       have hnc32 := NB175_169.out
       have hcz33_0 : wc.cell? ⟨gb169, 0, none⟩ = some (.bool t164) := (blk_cell BK169.out 0).trans rfl
       have hcz33_1 : wc.cell? ⟨gb169, 1, none⟩ = some (.string t165) := (blk_cell BK169.out 1).trans rfl
       have hcz33_2 : wc.cell? ⟨gb169, 2, none⟩ = some (.string t166) := (blk_cell BK169.out 2).trans rfl
       have hcz33_3 : wc.cell? ⟨gb169, 3, none⟩ = some (.string t167) := (blk_cell BK169.out 3).trans rfl
       have hfz33_0 := blk_frozen BK169.out 0
       have hfz33_1 := blk_frozen BK169.out 1
       have hfz33_2 := blk_frozen BK169.out 2
       have hfz33_3 := blk_frozen BK169.out 3
       have hcz34_0 : wc.cell? ⟨gb175, 0, none⟩ = some (.bool t170) := (blk_cell BK175.out 0).trans rfl
       have hcz34_1 : wc.cell? ⟨gb175, 1, none⟩ = some (.string t171) := (blk_cell BK175.out 1).trans rfl
       have hcz34_2 : wc.cell? ⟨gb175, 2, none⟩ = some (.string t172) := (blk_cell BK175.out 2).trans rfl
       have hcz34_3 : wc.cell? ⟨gb175, 3, none⟩ = some (.string t173) := (blk_cell BK175.out 3).trans rfl
       have hfz34_0 := blk_frozen BK175.out 0
       have hfz34_1 := blk_frozen BK175.out 1
       have hfz34_2 := blk_frozen BK175.out 2
       have hfz34_3 := blk_frozen BK175.out 3
       go_wp2_with (first | ((with_reducible refine gate_callee (f := 24) rfl ?_); refine goesL_ (some 29) rfl rfl Tryd.func24 (by kernel_rfl) rfl #[.agg #[.bool t164, .string t165], .agg #[.bool t170, .string t171]] rfl (by (try simp only [List.map_toArray, List.map_cons, List.map_nil]); first | done | rfl | (simp only [List.length_drop, List.length_take]; rfl)) ?_; (with_reducible refine (spec_intOrder.calls kj4 t164 t165 t170 t171 t176 _ A15.out).mono ?_); rintro e w35 ⟨rfl, hb⟩; refine ⟨_, rfl, ?_⟩; have n0_ := Aside0.mk (blk_below (g := gb169) (o := .cells #[.bool t164, .string t165, .string t166, .string t167] 27 (0, 0)) (by (with_reducible repeat (first | refine blk_drewN ?_ _ | refine blk_drew ?_ | refine blk_alloc ?_ _)); exact BK169.out) hb); have n1_ := Aside0.mk (blk_below (g := gb175) (o := .cells #[.bool t170, .string t171, .string t172, .string t173] 27 (0, 0)) (by (with_reducible repeat (first | refine blk_drewN ?_ _ | refine blk_drew ?_ | refine blk_alloc ?_ _)); exact BK175.out) hb); have n2_ := Aside0.mk (below_step (by repeat (first | (with_reducible first | exact HB.out | apply below_alloc | apply pw_below_drewN | apply below_drew1 | refine below_set ?_ GE169.out | refine below_set ?_ GE175.out) | exact HB.out)) hb); clear BK169; clear BK175; clear HB; have BK169 := n0_; have BK175 := n1_; have HB := n2_; clear n0_ n1_ n2_; (try clear hb); (try clear hb2); (try clear hk); (try clear hi)))
       go_ret2
       exact ⟨by first | rfl | (simp [errW_none, errW_some] <;> rfl) | (simp [*, errW_none, errW_some] <;> rfl) | (simp [bne_nil_]; done), by repeat (first | (with_reducible first | exact HB.out | apply below_alloc | apply pw_below_drewN | apply below_drew1 | refine below_set ?_ GE169.out | refine below_set ?_ GE175.out) | exact HB.out)⟩

end Go.Proofs.YtffcbcihnoaikaaDoor.QO
