-- Written by a working copy of the kit's print program, turned at a few places by wip/tool/mkprint.py. Lean checks it.
import Derived.Test.YtfgechefinijbaaDoorQGx0
import Derived.Test.YtfgechefinijbaaDoorQGx1
namespace Go.Proofs.YtfgechefinijbaaDoor.QG
open Go.RowKit Go.Proofs.YtfgechefinijbaaDoorW.PrintWords Go.Proofs.YtfgechefinijbaaDoorW.PrintLast Go.Proofs.YtfgechefinijbaaDoorW.PrintMore
attribute [local go_sem] max2_int min2_int max_two min_two max_three min_three max_four min_four   -- for this text's walks alone
set_option linter.unusedVariables false
set_option linter.unusedSimpArgs false

/-! ### spec_orderNumbers: function 46 -/
mutual
def spec_orderNumbers.j1 : Nat → ByteArray → ByteArray → Option (Int)
  | 0, _, _ => none
  | k + 1, x0, x1 => spec_orderNumbers.l1 k x0 x1
def spec_orderNumbers.j3 : Nat → ByteArray → ByteArray → Option (Int)
  | 0, _, _ => none
  | k + 1, x0, x1 => if (x0.size : Int) = (x1.size : Int) then ((Giv.spec_order.f x0 x1).bind fun t160 => (some t160)) else ((spec_orderInts.f (x0.size : Int) (x1.size : Int)).bind fun t161 => (some t161))
def spec_orderNumbers.l1 : Nat → ByteArray → ByteArray → Option (Int)
  | 0, _, _ => none
  | k + 1, x0, x1 => if (x1.size : Int) > 0 then (if 0 < (x1.size : Int) then (if (bt x1 0) = 48 then (if 1 ≤ (x1.size : Int) then (spec_orderNumbers.l1 k x0 (x1.extract 1 x1.size)) else (none)) else (spec_orderNumbers.j3 k x0 x1)) else (none)) else (spec_orderNumbers.j3 k x0 x1)
def spec_orderNumbers.l0 : Nat → ByteArray → ByteArray → Option (Int)
  | 0, _, _ => none
  | k + 1, x0, x1 => if (x0.size : Int) > 0 then (if 0 < (x0.size : Int) then (if (bt x0 0) = 48 then (if 1 ≤ (x0.size : Int) then (spec_orderNumbers.l0 k (x0.extract 1 x0.size) x1) else (none)) else (spec_orderNumbers.j1 k x0 x1)) else (none)) else (spec_orderNumbers.j1 k x0 x1)
end
def spec_orderNumbers.f (k : Nat) (a0 : ByteArray) (a1 : ByteArray) : Option (Int) := spec_orderNumbers.l0 k a0 a1
theorem spec_orderNumbers.mono_l : ∀ k, (∀ y0 y1, LeO (spec_orderNumbers.j1 k y0 y1) (spec_orderNumbers.j1 (k + 1) y0 y1)) ∧ (∀ y0 y1, LeO (spec_orderNumbers.j3 k y0 y1) (spec_orderNumbers.j3 (k + 1) y0 y1)) ∧ (∀ y0 y1, LeO (spec_orderNumbers.l1 k y0 y1) (spec_orderNumbers.l1 (k + 1) y0 y1)) ∧ (∀ y0 y1, LeO (spec_orderNumbers.l0 k y0 y1) (spec_orderNumbers.l0 (k + 1) y0 y1))
  | 0 => ⟨fun _ _ r h => by simp [spec_orderNumbers.j1] at h, fun _ _ r h => by simp [spec_orderNumbers.j3] at h, fun _ _ r h => by simp [spec_orderNumbers.l1] at h, fun _ _ r h => by simp [spec_orderNumbers.l0] at h⟩
  | k + 1 => by
    obtain ⟨ih0, ih1, ih2, ih3⟩ := spec_orderNumbers.mono_l k
    refine ⟨?_, ?_, ?_, ?_⟩
    · intro y0 y1
      unfold spec_orderNumbers.j1
      repeat' first
      | (with_reducible exact ih0 _ _)
      | (with_reducible exact ih1 _ _)
      | (with_reducible exact ih2 _ _)
      | (with_reducible exact ih3 _ _)
      | (with_reducible exact LeO.refl _)
      | (with_reducible exact LeO.none _)
      | (with_reducible refine LeO.ite ?_ ?_)
      | (with_reducible refine LeO.bind ?_ (fun _ => ?_))
      | exact ih0 _ _
      | exact ih1 _ _
      | exact ih2 _ _
      | exact ih3 _ _
      | exact LeO.none _
      | refine LeO.ite ?_ ?_
      | refine LeO.bind ?_ (fun _ => ?_)
    · intro y0 y1
      unfold spec_orderNumbers.j3
      repeat' first
      | (with_reducible exact ih0 _ _)
      | (with_reducible exact ih1 _ _)
      | (with_reducible exact ih2 _ _)
      | (with_reducible exact ih3 _ _)
      | (with_reducible exact LeO.refl _)
      | (with_reducible exact LeO.none _)
      | (with_reducible refine LeO.ite ?_ ?_)
      | (with_reducible refine LeO.bind ?_ (fun _ => ?_))
      | exact ih0 _ _
      | exact ih1 _ _
      | exact ih2 _ _
      | exact ih3 _ _
      | exact LeO.none _
      | refine LeO.ite ?_ ?_
      | refine LeO.bind ?_ (fun _ => ?_)
    · intro y0 y1
      unfold spec_orderNumbers.l1
      repeat' first
      | (with_reducible exact ih0 _ _)
      | (with_reducible exact ih1 _ _)
      | (with_reducible exact ih2 _ _)
      | (with_reducible exact ih3 _ _)
      | (with_reducible exact LeO.refl _)
      | (with_reducible exact LeO.none _)
      | (with_reducible refine LeO.ite ?_ ?_)
      | (with_reducible refine LeO.bind ?_ (fun _ => ?_))
      | exact ih0 _ _
      | exact ih1 _ _
      | exact ih2 _ _
      | exact ih3 _ _
      | exact LeO.none _
      | refine LeO.ite ?_ ?_
      | refine LeO.bind ?_ (fun _ => ?_)
    · intro y0 y1
      unfold spec_orderNumbers.l0
      repeat' first
      | (with_reducible exact ih0 _ _)
      | (with_reducible exact ih1 _ _)
      | (with_reducible exact ih2 _ _)
      | (with_reducible exact ih3 _ _)
      | (with_reducible exact LeO.refl _)
      | (with_reducible exact LeO.none _)
      | (with_reducible refine LeO.ite ?_ ?_)
      | (with_reducible refine LeO.bind ?_ (fun _ => ?_))
      | exact ih0 _ _
      | exact ih1 _ _
      | exact ih2 _ _
      | exact ih3 _ _
      | exact LeO.none _
      | refine LeO.ite ?_ ?_
      | refine LeO.bind ?_ (fun _ => ?_)
theorem spec_orderNumbers.mono : ∀ a0 a1 k, LeO (spec_orderNumbers.f k a0 a1) (spec_orderNumbers.f (k + 1) a0 a1) := by
  intro a0 a1 k
  obtain ⟨ih0, ih1, ih2, ih3⟩ := spec_orderNumbers.mono_l k
  unfold spec_orderNumbers.f
  repeat' first
      | (with_reducible exact ih0 _ _)
      | (with_reducible exact ih1 _ _)
      | (with_reducible exact ih2 _ _)
      | (with_reducible exact ih3 _ _)
      | (with_reducible exact LeO.refl _)
      | (with_reducible exact LeO.none _)
      | (with_reducible refine LeO.ite ?_ ?_)
      | (with_reducible refine LeO.bind ?_ (fun _ => ?_))
      | exact ih0 _ _
      | exact ih1 _ _
      | exact ih2 _ _
      | exact ih3 _ _
      | exact LeO.none _
      | refine LeO.ite ?_ ?_
      | refine LeO.bind ?_ (fun _ => ?_)
set_option maxHeartbeats 8000000 in
set_option maxRecDepth 100000 in
theorem spec_orderNumbers.calls (k : Nat) (a0 : ByteArray) (a1 : ByteArray) (r : Int) (w : World) (h : spec_orderNumbers.f k a0 a1 = some r) :
    Calls Tryd.prog 46 #[.string a0, .string a1] w fun e w' => e = .returned (.int .i64 r) ∧ Drawn0 w w' := by
  have H : (spec_orderNumbers.l0 k a0 a1) = some r := h
  clear h
  have HC3 := Aside0.mk H
  clear H
  go_enter Tryd.func46, Tryd.ntmps46
  go_upto_block 0 with (fail)
  go_cut [0] (fun v0 wc => ∃ (kq : Nat) (x0_2 : ByteArray), v0 = .string x0_2 ∧ Aside0 (spec_orderNumbers.j1 kq x0_2 a1 = some r) ∧ Aside0 (kq ≤ k) ∧ Drawn0 w wc)
  case first =>
    have H := HC3.out
    clear HC3
    have H' := Aside0.mk H
    clear H
    go_wp2
    go_loopg [0] k (fun kq v0 w' => ∃ (x0_1 : ByteArray), v0 = .string x0_1 ∧ Aside0 (spec_orderNumbers.l0 kq x0_1 a1 = some r) ∧ Aside0 (kq ≤ k) ∧ Drawn0 w w')
    case atStart => exact ⟨(a0), (by first | rfl | (simp; done) | (simp [*]; done) | (simp [bne_nil_]; done)), H', ⟨Nat.le_refl _⟩, by repeat (first | exact Drawn0.refl _ | apply Drawn0.step)⟩
    case round =>
      clear H'
      try clear p2
      obtain ⟨x0_1, rfl, HA, HK1, ⟨m1, rfl⟩⟩ := hrel
      cases gk with
      | zero => exact absurd HA.out (by simp [spec_orderNumbers.l0])
      | succ k1 =>
        have H := HA.out
        clear HA
        simp only [spec_orderNumbers.l0] at H
        by_cases c4 : (x0_1.size : Int) > 0
        · rw [if_pos c4] at H
          have c4b0 : decide (0 < (x0_1.size : Int)) = true := decide_eq_true c4
          have c4b1 : decide (0 < x0_1.size) = true := decide_eq_true (by omega)
          clear c4
          (first | rw [c4b0] | (simp only [i64_w, i32_w]; rw [c4b0]) | skip)
          by_cases c5 : 0 < (x0_1.size : Int)
          · rw [if_pos c5] at H
            have c5b0 : decide (0 < (x0_1.size : Int)) = true := decide_eq_true c5
            have c5b1 : decide (0 < x0_1.size) = true := decide_eq_true (by omega)
            clear c5
            by_cases c7 : (bt x0_1 0) = 48
            · rw [if_pos c7] at H
              have c7b0 : ((bt x0_1 0) == 48) = true := beq_iff_eq.mpr c7
              have c7b1 : ((bt x0_1 0) != 48) = false := bne_eq_false_iff_eq.mpr c7
              clear c7
              by_cases c8 : 1 ≤ (x0_1.size : Int)
              · rw [if_pos c8] at H
                have c8b0 := eq_true c8
                have c8b1 : decide (1 ≤ (x0_1.size : Int)) = true := decide_eq_true c8
                clear c8
                have H' := Aside0.mk H
                clear H
                have p6 : 0 ≤ (0 : Int) := (by omega)
                have q6 : 0 < x0_1.size := (by have : (0 : Int) < (x0_1.size : Int) := of_decide_eq_true (by first | (with_reducible assumption) | assumption); omega)
                have hx6 : ∀ h : 0 < x0_1.size, ((x0_1[0]'h).toNat : Int) = bt x0_1 0 := bt_at x0_1 0
                clear p6
                have qi6 : (0 < (x0_1.size : Int)) = True := eq_true (of_decide_eq_true (by first | (with_reducible assumption) | assumption))
                replace q6 := eq_true q6
                go_wp2
                go_roundg k1
                case measure => have := HK1.out; omega
                case rel => exact ⟨(x0_1.extract 1 x0_1.size), (by first | rfl | (simp; done) | (simp [*]; done) | (simp [bne_nil_]; done)), H', ⟨by have := HK1.out; omega⟩, by repeat (first | exact Drawn0.refl _ | apply Drawn0.step)⟩
              · rw [if_neg c8] at H
                exact absurd H (by simp)
            · rw [if_neg c7] at H
              have c7b0 : ((bt x0_1 0) == 48) = false := beq_eq_false_iff_ne.mpr c7
              have c7b1 : ((bt x0_1 0) != 48) = true := bne_iff_ne.mpr c7
              have H' := Aside0.mk H
              clear H
              have p6 : 0 ≤ (0 : Int) := (by omega)
              have q6 : 0 < x0_1.size := (by have : (0 : Int) < (x0_1.size : Int) := of_decide_eq_true (by first | (with_reducible assumption) | assumption); omega)
              have hx6 : ∀ h : 0 < x0_1.size, ((x0_1[0]'h).toNat : Int) = bt x0_1 0 := bt_at x0_1 0
              clear p6
              have qi6 : (0 < (x0_1.size : Int)) = True := eq_true (of_decide_eq_true (by first | (with_reducible assumption) | assumption))
              replace q6 := eq_true q6
              go_wp2
              go_meet
              case rel => exact ⟨_, (x0_1), (by first | rfl | (simp; done) | (simp [*]; done) | (simp [bne_nil_]; done)), H', ⟨by have := HK1.out; first | omega | exact Nat.le_refl _⟩, by repeat (first | exact Drawn0.refl _ | apply Drawn0.step)⟩
          · rw [if_neg c5] at H
            exact absurd H (by simp)
        · rw [if_neg c4] at H
          have c4b0 : decide (0 < (x0_1.size : Int)) = false := decide_eq_false c4
          have c4b1 : decide (0 < x0_1.size) = false := decide_eq_false (by omega)
          clear c4
          (first | rw [c4b0] | (simp only [i64_w, i32_w]; rw [c4b0]) | skip)
          have H' := Aside0.mk H
          clear H
          go_wp2
          go_meet
          case rel => exact ⟨_, (x0_1), (by first | rfl | (simp; done) | (simp [*]; done) | (simp [bne_nil_]; done)), H', ⟨by have := HK1.out; first | omega | exact Nat.le_refl _⟩, by repeat (first | exact Drawn0.refl _ | apply Drawn0.step)⟩
  case rest =>
    clear HC3
    try clear p2
    try clear c4
    try clear c4b0
    try clear c4b1
    try clear c5
    try clear c5b0
    try clear c5b1
    try clear p6
    try clear q6
    try clear hx6
    try clear qi6
    try clear c7
    try clear c7b0
    try clear c7b1
    try clear c8
    try clear c8b0
    try clear c8b1
    try clear p2
    try clear p6
    try clear q6
    obtain ⟨kq, x0_2, rfl, HA, HJ2, ⟨mc2, rfl⟩⟩ := hcut
    cases kq with
    | zero => exact absurd HA.out (by simp [spec_orderNumbers.j1])
    | succ kj2 =>
      have H := HA.out
      clear HA
      simp only [spec_orderNumbers.j1] at H
      have HC9 := Aside0.mk H
      clear H
      go_upto_block 2 with (fail)
      go_cut [1] (fun v1 wc => ∃ (kq : Nat) (x1_8 : ByteArray), v1 = .string x1_8 ∧ Aside0 (spec_orderNumbers.j3 kq x0_2 x1_8 = some r) ∧ Aside0 (kq ≤ kj2) ∧ Drawn0 w wc)
      case first =>
        have H := HC9.out
        clear HC9
        have H' := Aside0.mk H
        clear H
        go_wp2
        go_loopg [1] kj2 (fun kq v1 w' => ∃ (x1_2 : ByteArray), v1 = .string x1_2 ∧ Aside0 (spec_orderNumbers.l1 kq x0_2 x1_2 = some r) ∧ Aside0 (kq ≤ kj2) ∧ Drawn0 w w')
        case atStart => exact ⟨(a1), (by first | rfl | (simp; done) | (simp [*]; done) | (simp [bne_nil_]; done)), H', ⟨Nat.le_refl _⟩, by repeat (first | exact Drawn0.refl _ | apply Drawn0.step)⟩
        case round =>
          clear H'
          try clear c2
          try clear p2
          try clear c4
          try clear c4b0
          try clear c4b1
          try clear c5
          try clear c5b0
          try clear c5b1
          try clear p6
          try clear q6
          try clear hx6
          try clear qi6
          try clear c7
          try clear c7b0
          try clear c7b1
          try clear c8
          try clear c8b0
          try clear c8b1
          try clear p2
          try clear p6
          try clear q6
          obtain ⟨x1_2, rfl, HA, HK2, ⟨m2, rfl⟩⟩ := hrel
          cases gk with
          | zero => exact absurd HA.out (by simp [spec_orderNumbers.l1])
          | succ k2 =>
            have H := HA.out
            clear HA
            simp only [spec_orderNumbers.l1] at H
            by_cases c10 : (x1_2.size : Int) > 0
            · rw [if_pos c10] at H
              have c10b0 : decide (0 < (x1_2.size : Int)) = true := decide_eq_true c10
              have c10b1 : decide (0 < x1_2.size) = true := decide_eq_true (by omega)
              clear c10
              (first | rw [c10b0] | (simp only [i64_w, i32_w]; rw [c10b0]) | skip)
              by_cases c11 : 0 < (x1_2.size : Int)
              · rw [if_pos c11] at H
                have c11b0 : decide (0 < (x1_2.size : Int)) = true := decide_eq_true c11
                have c11b1 : decide (0 < x1_2.size) = true := decide_eq_true (by omega)
                clear c11
                by_cases c13 : (bt x1_2 0) = 48
                · rw [if_pos c13] at H
                  have c13b0 : ((bt x1_2 0) == 48) = true := beq_iff_eq.mpr c13
                  have c13b1 : ((bt x1_2 0) != 48) = false := bne_eq_false_iff_eq.mpr c13
                  clear c13
                  by_cases c14 : 1 ≤ (x1_2.size : Int)
                  · rw [if_pos c14] at H
                    have c14b0 := eq_true c14
                    have c14b1 : decide (1 ≤ (x1_2.size : Int)) = true := decide_eq_true c14
                    clear c14
                    have H' := Aside0.mk H
                    clear H
                    have p12 : 0 ≤ (0 : Int) := (by omega)
                    have q12 : 0 < x1_2.size := (by have : (0 : Int) < (x1_2.size : Int) := of_decide_eq_true (by first | (with_reducible assumption) | assumption); omega)
                    have hx12 : ∀ h : 0 < x1_2.size, ((x1_2[0]'h).toNat : Int) = bt x1_2 0 := bt_at x1_2 0
                    clear p12
                    have qi12 : (0 < (x1_2.size : Int)) = True := eq_true (of_decide_eq_true (by first | (with_reducible assumption) | assumption))
                    replace q12 := eq_true q12
                    go_wp2
                    go_roundg k2
                    case measure => have := HJ2.out; have := HK2.out; omega
                    case rel => exact ⟨(x1_2.extract 1 x1_2.size), (by first | rfl | (simp; done) | (simp [*]; done) | (simp [bne_nil_]; done)), H', ⟨by have := HJ2.out; have := HK2.out; omega⟩, by repeat (first | exact Drawn0.refl _ | apply Drawn0.step)⟩
                  · rw [if_neg c14] at H
                    exact absurd H (by simp)
                · rw [if_neg c13] at H
                  have c13b0 : ((bt x1_2 0) == 48) = false := beq_eq_false_iff_ne.mpr c13
                  have c13b1 : ((bt x1_2 0) != 48) = true := bne_iff_ne.mpr c13
                  have H' := Aside0.mk H
                  clear H
                  have p12 : 0 ≤ (0 : Int) := (by omega)
                  have q12 : 0 < x1_2.size := (by have : (0 : Int) < (x1_2.size : Int) := of_decide_eq_true (by first | (with_reducible assumption) | assumption); omega)
                  have hx12 : ∀ h : 0 < x1_2.size, ((x1_2[0]'h).toNat : Int) = bt x1_2 0 := bt_at x1_2 0
                  clear p12
                  have qi12 : (0 < (x1_2.size : Int)) = True := eq_true (of_decide_eq_true (by first | (with_reducible assumption) | assumption))
                  replace q12 := eq_true q12
                  go_wp2
                  go_meet
                  case rel => exact ⟨_, (x1_2), (by first | rfl | (simp; done) | (simp [*]; done) | (simp [bne_nil_]; done)), H', ⟨by have := HJ2.out; have := HK2.out; first | omega | exact Nat.le_refl _⟩, by repeat (first | exact Drawn0.refl _ | apply Drawn0.step)⟩
              · rw [if_neg c11] at H
                exact absurd H (by simp)
            · rw [if_neg c10] at H
              have c10b0 : decide (0 < (x1_2.size : Int)) = false := decide_eq_false c10
              have c10b1 : decide (0 < x1_2.size) = false := decide_eq_false (by omega)
              clear c10
              (first | rw [c10b0] | (simp only [i64_w, i32_w]; rw [c10b0]) | skip)
              have H' := Aside0.mk H
              clear H
              go_wp2
              go_meet
              case rel => exact ⟨_, (x1_2), (by first | rfl | (simp; done) | (simp [*]; done) | (simp [bne_nil_]; done)), H', ⟨by have := HJ2.out; have := HK2.out; first | omega | exact Nat.le_refl _⟩, by repeat (first | exact Drawn0.refl _ | apply Drawn0.step)⟩
      case rest =>
        clear HC9
        try clear c1
        try clear p1
        try clear q1
        try clear hx1
        try clear qi1
        try clear c2
        try clear p2
        try clear c4
        try clear c4b0
        try clear c4b1
        try clear c5
        try clear c5b0
        try clear c5b1
        try clear p6
        try clear q6
        try clear hx6
        try clear qi6
        try clear c7
        try clear c7b0
        try clear c7b1
        try clear c8
        try clear c8b0
        try clear c8b1
        try clear c10
        try clear c10b0
        try clear c10b1
        try clear c11
        try clear c11b0
        try clear c11b1
        try clear p12
        try clear q12
        try clear hx12
        try clear qi12
        try clear c13
        try clear c13b0
        try clear c13b1
        try clear c14
        try clear c14b0
        try clear c14b1
        try clear p12
        try clear p2
        try clear p6
        try clear q12
        try clear q6
        obtain ⟨kq, x1_8, rfl, HA, HJ8, ⟨mc8, rfl⟩⟩ := hcut
        cases kq with
        | zero => exact absurd HA.out (by simp [spec_orderNumbers.j3])
        | succ kj8 =>
          have H := HA.out
          clear HA
          simp only [spec_orderNumbers.j3] at H
          by_cases c15 : (x0_2.size : Int) = (x1_8.size : Int)
          · rw [if_pos c15] at H
            have c15b0 : ((x0_2.size : Int) == (x1_8.size : Int)) = true := beq_iff_eq.mpr c15
            have c15b1 : ((x0_2.size : Int) != (x1_8.size : Int)) = false := bne_eq_false_iff_eq.mpr c15
            have c15b2 : (x0_2.size == x1_8.size) = true := by first | simpa using c15 | (simp at c15 ⊢; omega)
            clear c15
            replace H := Option.bind_eq_some_iff.mp H
            obtain ⟨t160, A160, H⟩ := H
            replace H : (some t160) = some r := H
            have A16 := Aside0.mk A160
            clear A160
            obtain rfl := Option.some.inj H
            go_wp2_with (first | ((with_reducible refine gate_callee (f := 47) rfl ?_); refine goesL_ (some 37) rfl rfl Tryd.func47 (by kernel_rfl) rfl #[.string x0_2, .string x1_8] rfl (by (try simp only [List.map_toArray, List.map_cons, List.map_nil]); first | done | rfl | (simp only [List.length_drop, List.length_take]; rfl)) ?_; (with_reducible refine (Giv.spec_order.calls x0_2 x1_8 t160 _ A16.out).mono ?_); rintro e w' ⟨rfl, ⟨nd, rfl⟩⟩; refine ⟨_, rfl, ?_⟩))
            go_ret
            exact ⟨by first | rfl | (simp; done) | (simp [*]; done) | (simp [bne_nil_]; done), by repeat (first | exact Drawn0.refl _ | apply Drawn0.step)⟩
          · rw [if_neg c15] at H
            have c15b0 : ((x0_2.size : Int) == (x1_8.size : Int)) = false := beq_eq_false_iff_ne.mpr c15
            have c15b1 : ((x0_2.size : Int) != (x1_8.size : Int)) = true := bne_iff_ne.mpr c15
            have c15b2 : (x0_2.size == x1_8.size) = false := by first | simpa using c15 | (simp at c15 ⊢; omega)
            replace H := Option.bind_eq_some_iff.mp H
            obtain ⟨t161, A170, H⟩ := H
            replace H : (some t161) = some r := H
            have A17 := Aside0.mk A170
            clear A170
            obtain rfl := Option.some.inj H
            go_wp2_with (first | ((with_reducible refine gate_callee (f := 64) rfl ?_); refine goesL_ (some 34) rfl rfl Tryd.func64 (by kernel_rfl) rfl #[.int .i64 (x0_2.size : Int), .int .i64 (x1_8.size : Int)] rfl (by (try simp only [List.map_toArray, List.map_cons, List.map_nil]); first | done | rfl | (simp only [List.length_drop, List.length_take]; rfl)) ?_; (with_reducible refine (spec_orderInts.calls (x0_2.size : Int) (x1_8.size : Int) t161 _ A17.out).mono ?_); rintro e w' ⟨rfl, ⟨nd, rfl⟩⟩; refine ⟨_, rfl, ?_⟩))
            go_ret
            exact ⟨by first | rfl | (simp; done) | (simp [*]; done) | (simp [bne_nil_]; done), by repeat (first | exact Drawn0.refl _ | apply Drawn0.step)⟩

/-! ### spec_RubySegments: function 22 -/
mutual
def spec_RubySegments.l0 : Nat → List ByteArray → List ByteArray → Int → Option (Int)
  | 0, _, _, _ => none
  | k + 1, x0, x1, x5 => if x5 < (x0.length : Int) then (spec_RubySegments.j1 k x0 x1 x5 true) else (spec_RubySegments.j1 k x0 x1 x5 (decide (x5 < (x1.length : Int))))
def spec_RubySegments.j1 : Nat → List ByteArray → List ByteArray → Int → Bool → Option (Int)
  | 0, _, _, _, _ => none
  | k + 1, x0, x1, x5, x20 => if x20 = true then (if x5 < (x0.length : Int) then (if 0 ≤ x5 then (spec_RubySegments.j2 k x0 x1 x5 (rdOf ByteArray.empty x0 x5) (⟨#[48]⟩ : ByteArray)) else (none)) else (spec_RubySegments.j2 k x0 x1 x5 (⟨#[48]⟩ : ByteArray) (⟨#[48]⟩ : ByteArray))) else (some 0)
def spec_RubySegments.j2 : Nat → List ByteArray → List ByteArray → Int → ByteArray → ByteArray → Option (Int)
  | 0, _, _, _, _, _ => none
  | k + 1, x0, x1, x5, x6, x7 => if x5 < (x1.length : Int) then (if 0 ≤ x5 then (spec_RubySegments.j3 k x0 x1 x5 x6 (rdOf ByteArray.empty x1 x5)) else (none)) else (spec_RubySegments.j3 k x0 x1 x5 x6 x7)
def spec_RubySegments.j3 : Nat → List ByteArray → List ByteArray → Int → ByteArray → ByteArray → Option (Int)
  | 0, _, _, _, _, _ => none
  | k + 1, x0, x1, x5, x6, x7 => (spec_allDigits.f k x6).bind fun t164 => ((spec_allDigits.f k x7).bind fun t165 => (if t164 = true then (spec_RubySegments.j4 k x0 x1 x5 x6 x7 t164 t165 t165) else (spec_RubySegments.j4 k x0 x1 x5 x6 x7 t164 t165 false)))
def spec_RubySegments.j4 : Nat → List ByteArray → List ByteArray → Int → ByteArray → ByteArray → Bool → Bool → Bool → Option (Int)
  | 0, _, _, _, _, _, _, _, _ => none
  | k + 1, x0, x1, x5, x6, x7, x9, x10, x46 => if x46 = true then ((spec_orderNumbers.f k x6 x7).bind fun t166 => (if t166 = 0 then (spec_RubySegments.l0 k x0 x1 (wrap64 (x5 + 1))) else (some t166))) else (if x9 = true then (if 1 = 0 then (spec_RubySegments.l0 k x0 x1 (wrap64 (x5 + 1))) else (some 1)) else (if x10 = true then (if (-1) = 0 then (spec_RubySegments.l0 k x0 x1 (wrap64 (x5 + 1))) else (some (-1))) else ((Giv.spec_order.f x6 x7).bind fun t167 => (if t167 = 0 then (spec_RubySegments.l0 k x0 x1 (wrap64 (x5 + 1))) else (some t167)))))
end
def spec_RubySegments.f (k : Nat) (l0 : List ByteArray) (l1 : List ByteArray) : Option (Int) := spec_RubySegments.l0 k l0 l1 0
theorem spec_RubySegments.mono_l : ∀ k, (∀ y0 y1 y2, LeO (spec_RubySegments.l0 k y0 y1 y2) (spec_RubySegments.l0 (k + 1) y0 y1 y2)) ∧ (∀ y0 y1 y2 y3, LeO (spec_RubySegments.j1 k y0 y1 y2 y3) (spec_RubySegments.j1 (k + 1) y0 y1 y2 y3)) ∧ (∀ y0 y1 y2 y3 y4, LeO (spec_RubySegments.j2 k y0 y1 y2 y3 y4) (spec_RubySegments.j2 (k + 1) y0 y1 y2 y3 y4)) ∧ (∀ y0 y1 y2 y3 y4, LeO (spec_RubySegments.j3 k y0 y1 y2 y3 y4) (spec_RubySegments.j3 (k + 1) y0 y1 y2 y3 y4)) ∧ (∀ y0 y1 y2 y3 y4 y5 y6 y7, LeO (spec_RubySegments.j4 k y0 y1 y2 y3 y4 y5 y6 y7) (spec_RubySegments.j4 (k + 1) y0 y1 y2 y3 y4 y5 y6 y7))
  | 0 => ⟨fun _ _ _ r h => by simp [spec_RubySegments.l0] at h, fun _ _ _ _ r h => by simp [spec_RubySegments.j1] at h, fun _ _ _ _ _ r h => by simp [spec_RubySegments.j2] at h, fun _ _ _ _ _ r h => by simp [spec_RubySegments.j3] at h, fun _ _ _ _ _ _ _ _ r h => by simp [spec_RubySegments.j4] at h⟩
  | k + 1 => by
    obtain ⟨ih0, ih1, ih2, ih3, ih4⟩ := spec_RubySegments.mono_l k
    refine ⟨?_, ?_, ?_, ?_, ?_⟩
    · intro y0 y1 y2
      unfold spec_RubySegments.l0
      repeat' first
      | (with_reducible exact ih0 _ _ _)
      | (with_reducible exact ih1 _ _ _ _)
      | (with_reducible exact ih2 _ _ _ _ _)
      | (with_reducible exact ih3 _ _ _ _ _)
      | (with_reducible exact ih4 _ _ _ _ _ _ _ _)
      | (with_reducible exact spec_allDigits.mono _ _)
      | (with_reducible exact spec_orderNumbers.mono _ _ _)
      | (with_reducible exact LeO.refl _)
      | (with_reducible exact LeO.none _)
      | (with_reducible refine LeO.ite ?_ ?_)
      | (with_reducible refine LeO.bind ?_ (fun _ => ?_))
      | exact ih0 _ _ _
      | exact ih1 _ _ _ _
      | exact ih2 _ _ _ _ _
      | exact ih3 _ _ _ _ _
      | exact ih4 _ _ _ _ _ _ _ _
      | exact spec_allDigits.mono _ _
      | exact spec_orderNumbers.mono _ _ _
      | exact LeO.none _
      | refine LeO.ite ?_ ?_
      | refine LeO.bind ?_ (fun _ => ?_)
    · intro y0 y1 y2 y3
      unfold spec_RubySegments.j1
      repeat' first
      | (with_reducible exact ih0 _ _ _)
      | (with_reducible exact ih1 _ _ _ _)
      | (with_reducible exact ih2 _ _ _ _ _)
      | (with_reducible exact ih3 _ _ _ _ _)
      | (with_reducible exact ih4 _ _ _ _ _ _ _ _)
      | (with_reducible exact spec_allDigits.mono _ _)
      | (with_reducible exact spec_orderNumbers.mono _ _ _)
      | (with_reducible exact LeO.refl _)
      | (with_reducible exact LeO.none _)
      | (with_reducible refine LeO.ite ?_ ?_)
      | (with_reducible refine LeO.bind ?_ (fun _ => ?_))
      | exact ih0 _ _ _
      | exact ih1 _ _ _ _
      | exact ih2 _ _ _ _ _
      | exact ih3 _ _ _ _ _
      | exact ih4 _ _ _ _ _ _ _ _
      | exact spec_allDigits.mono _ _
      | exact spec_orderNumbers.mono _ _ _
      | exact LeO.none _
      | refine LeO.ite ?_ ?_
      | refine LeO.bind ?_ (fun _ => ?_)
    · intro y0 y1 y2 y3 y4
      unfold spec_RubySegments.j2
      repeat' first
      | (with_reducible exact ih0 _ _ _)
      | (with_reducible exact ih1 _ _ _ _)
      | (with_reducible exact ih2 _ _ _ _ _)
      | (with_reducible exact ih3 _ _ _ _ _)
      | (with_reducible exact ih4 _ _ _ _ _ _ _ _)
      | (with_reducible exact spec_allDigits.mono _ _)
      | (with_reducible exact spec_orderNumbers.mono _ _ _)
      | (with_reducible exact LeO.refl _)
      | (with_reducible exact LeO.none _)
      | (with_reducible refine LeO.ite ?_ ?_)
      | (with_reducible refine LeO.bind ?_ (fun _ => ?_))
      | exact ih0 _ _ _
      | exact ih1 _ _ _ _
      | exact ih2 _ _ _ _ _
      | exact ih3 _ _ _ _ _
      | exact ih4 _ _ _ _ _ _ _ _
      | exact spec_allDigits.mono _ _
      | exact spec_orderNumbers.mono _ _ _
      | exact LeO.none _
      | refine LeO.ite ?_ ?_
      | refine LeO.bind ?_ (fun _ => ?_)
    · intro y0 y1 y2 y3 y4
      unfold spec_RubySegments.j3
      repeat' first
      | (with_reducible exact ih0 _ _ _)
      | (with_reducible exact ih1 _ _ _ _)
      | (with_reducible exact ih2 _ _ _ _ _)
      | (with_reducible exact ih3 _ _ _ _ _)
      | (with_reducible exact ih4 _ _ _ _ _ _ _ _)
      | (with_reducible exact spec_allDigits.mono _ _)
      | (with_reducible exact spec_orderNumbers.mono _ _ _)
      | (with_reducible exact LeO.refl _)
      | (with_reducible exact LeO.none _)
      | (with_reducible refine LeO.ite ?_ ?_)
      | (with_reducible refine LeO.bind ?_ (fun _ => ?_))
      | exact ih0 _ _ _
      | exact ih1 _ _ _ _
      | exact ih2 _ _ _ _ _
      | exact ih3 _ _ _ _ _
      | exact ih4 _ _ _ _ _ _ _ _
      | exact spec_allDigits.mono _ _
      | exact spec_orderNumbers.mono _ _ _
      | exact LeO.none _
      | refine LeO.ite ?_ ?_
      | refine LeO.bind ?_ (fun _ => ?_)
    · intro y0 y1 y2 y3 y4 y5 y6 y7
      unfold spec_RubySegments.j4
      repeat' first
      | (with_reducible exact ih0 _ _ _)
      | (with_reducible exact ih1 _ _ _ _)
      | (with_reducible exact ih2 _ _ _ _ _)
      | (with_reducible exact ih3 _ _ _ _ _)
      | (with_reducible exact ih4 _ _ _ _ _ _ _ _)
      | (with_reducible exact spec_allDigits.mono _ _)
      | (with_reducible exact spec_orderNumbers.mono _ _ _)
      | (with_reducible exact LeO.refl _)
      | (with_reducible exact LeO.none _)
      | (with_reducible refine LeO.ite ?_ ?_)
      | (with_reducible refine LeO.bind ?_ (fun _ => ?_))
      | exact ih0 _ _ _
      | exact ih1 _ _ _ _
      | exact ih2 _ _ _ _ _
      | exact ih3 _ _ _ _ _
      | exact ih4 _ _ _ _ _ _ _ _
      | exact spec_allDigits.mono _ _
      | exact spec_orderNumbers.mono _ _ _
      | exact LeO.none _
      | refine LeO.ite ?_ ?_
      | refine LeO.bind ?_ (fun _ => ?_)
theorem spec_RubySegments.mono : ∀ a0 a1 k, LeO (spec_RubySegments.f k a0 a1) (spec_RubySegments.f (k + 1) a0 a1) := by
  intro a0 a1 k
  obtain ⟨ih0, ih1, ih2, ih3, ih4⟩ := spec_RubySegments.mono_l k
  unfold spec_RubySegments.f
  repeat' first
      | (with_reducible exact ih0 _ _ _)
      | (with_reducible exact ih1 _ _ _ _)
      | (with_reducible exact ih2 _ _ _ _ _)
      | (with_reducible exact ih3 _ _ _ _ _)
      | (with_reducible exact ih4 _ _ _ _ _ _ _ _)
      | (with_reducible exact spec_allDigits.mono _ _)
      | (with_reducible exact spec_orderNumbers.mono _ _ _)
      | (with_reducible exact LeO.refl _)
      | (with_reducible exact LeO.none _)
      | (with_reducible refine LeO.ite ?_ ?_)
      | (with_reducible refine LeO.bind ?_ (fun _ => ?_))
      | exact ih0 _ _ _
      | exact ih1 _ _ _ _
      | exact ih2 _ _ _ _ _
      | exact ih3 _ _ _ _ _
      | exact ih4 _ _ _ _ _ _ _ _
      | exact spec_allDigits.mono _ _
      | exact spec_orderNumbers.mono _ _ _
      | exact LeO.none _
      | refine LeO.ite ?_ ?_
      | refine LeO.bind ?_ (fun _ => ?_)
set_option maxHeartbeats 8000000 in
set_option maxRecDepth 100000 in
theorem spec_RubySegments.calls (k : Nat) (A0 : Option Addr) (c0 : Nat) (l0 : List ByteArray) (A1 : Option Addr) (c1 : Nat) (l1 : List ByteArray) (r : Int) (w : World) (hr0 : Kd.C Kd.string w A0 l0.length l0) (hc0 : l0.length ≤ c0) (hr1 : Kd.C Kd.string w A1 l1.length l1) (hc1 : l1.length ≤ c1) (h : spec_RubySegments.f k l0 l1 = some r) :
    Calls Tryd.prog 22 #[.slice A0 l0.length c0, .slice A1 l1.length c1] w fun e w' => e = .returned (.int .i64 r) ∧ Drawn0 w w' := by
  have HR0 := Aside0.mk hr0
  have HC0 := Aside0.mk hc0
  clear hr0 hc0
  have HR1 := Aside0.mk hr1
  have HC1 := Aside0.mk hc1
  clear hr1 hc1
  have H : (spec_RubySegments.l0 k l0 l1 0) = some r := h
  clear h
  have H' := Aside0.mk H
  clear H
  go_enter Tryd.func22, Tryd.ntmps22
  go_wp2
  go_loopg [5] k (fun kq v5 w' => ∃ (x5_1 : Int), v5 = .int .i64 x5_1 ∧ Aside0 (spec_RubySegments.l0 kq l0 l1 x5_1 = some r) ∧ Aside0 (kq ≤ k) ∧ Drawn0 w w')
  case atStart => exact ⟨(0), (by first | rfl | (simp; done) | (simp [*]; done) | (simp [bne_nil_]; done)), H', ⟨Nat.le_refl _⟩, by repeat (first | exact Drawn0.refl _ | apply Drawn0.step)⟩
  case round =>
    clear H'
    try clear c1
    try clear c2
    try clear p2
    obtain ⟨x5_1, rfl, HA, HK1, ⟨m1, rfl⟩⟩ := hrel
    cases gk with
    | zero => exact absurd HA.out (by simp [spec_RubySegments.l0])
    | succ k1 =>
      have H := HA.out
      clear HA
      simp only [spec_RubySegments.l0] at H
      have HC3 := Aside0.mk H
      clear H
      go_upto_region 2 with (fail)
      go_cut [20] (fun v20 wc => ∃ (kq : Nat) (x20_2 : Bool), v20 = .bool x20_2 ∧ Aside0 (spec_RubySegments.j1 kq l0 l1 x5_1 x20_2 = some r) ∧ Aside0 (kq ≤ k1) ∧ Drawn0 w wc)
      case first =>
        have H := HC3.out
        clear HC3
        by_cases c4 : x5_1 < (l0.length : Int)
        · rw [if_pos c4] at H
          have c4b0 : decide (x5_1 < (l0.length : Int)) = true := decide_eq_true c4
          clear c4
          (first | rw [c4b0] | (simp only [i64_w, i32_w]; rw [c4b0]) | skip)
          have H' := Aside0.mk H
          clear H
          go_wp2
          go_meet
          case rel => exact ⟨_, (true), (by first | rfl | (simp; done) | (simp [*]; done) | (simp [bne_nil_]; done)), H', ⟨by have := HK1.out; first | omega | exact Nat.le_refl _⟩, by repeat (first | exact Drawn0.refl _ | apply Drawn0.step)⟩
        · rw [if_neg c4] at H
          have c4b0 : decide (x5_1 < (l0.length : Int)) = false := decide_eq_false c4
          clear c4
          (first | rw [c4b0] | (simp only [i64_w, i32_w]; rw [c4b0]) | skip)
          have H' := Aside0.mk H
          clear H
          go_wp2
          go_meet
          case rel => exact ⟨_, (decide (x5_1 < (l1.length : Int))), (by first | rfl | (simp; done) | (simp [*]; done) | (simp [bne_nil_]; done)), H', ⟨by have := HK1.out; first | omega | exact Nat.le_refl _⟩, by repeat (first | exact Drawn0.refl _ | apply Drawn0.step)⟩
      case rest =>
        clear HC3
        try clear c1
        try clear c2
        try clear p2
        try clear c4
        try clear c4b0
        try clear p2
        obtain ⟨kq, x20_2, rfl, HA, HJ2, ⟨mc2, rfl⟩⟩ := hcut
        cases kq with
        | zero => exact absurd HA.out (by simp [spec_RubySegments.j1])
        | succ kj2 =>
          have H := HA.out
          clear HA
          simp only [spec_RubySegments.j1] at H
          by_cases c5 : x20_2 = true
          · subst c5
            have H1 : (if x5_1 < (l0.length : Int) then (if 0 ≤ x5_1 then (spec_RubySegments.j2 kj2 l0 l1 x5_1 (rdOf ByteArray.empty l0 x5_1) (⟨#[48]⟩ : ByteArray)) else (none)) else (spec_RubySegments.j2 kj2 l0 l1 x5_1 (⟨#[48]⟩ : ByteArray) (⟨#[48]⟩ : ByteArray))) = some r := by rw [if_pos rfl] at H; exact H
            clear H
            have H := H1
            clear H1
            have HC6 := Aside0.mk H
            clear H
            go_upto_if 26 with (fail)
            go_cut [6] (fun v6 wc => ∃ (kq : Nat) (x6_5 : ByteArray), v6 = .string x6_5 ∧ Aside0 (spec_RubySegments.j2 kq l0 l1 x5_1 x6_5 (⟨#[48]⟩ : ByteArray) = some r) ∧ Aside0 (kq ≤ kj2) ∧ Drawn0 w wc)
            case first =>
              have H := HC6.out
              clear HC6
              by_cases c7 : x5_1 < (l0.length : Int)
              · rw [if_pos c7] at H
                have c7b0 : decide (x5_1 < (l0.length : Int)) = true := decide_eq_true c7
                clear c7
                (first | rw [c7b0] | (simp only [i64_w, i32_w]; rw [c7b0]) | skip)
                by_cases c8 : 0 ≤ x5_1
                · rw [if_pos c8] at H
                  have c8b0 : decide (0 ≤ x5_1) = true := decide_eq_true c8
                  clear c8
                  have H' := Aside0.mk H
                  clear H
                  have p162 : 0 ≤ (x5_1 : Int) := of_decide_eq_true (by first | (with_reducible assumption) | assumption)
                  have q162 : x5_1 < (l0.length : Int) := of_decide_eq_true (by first | (with_reducible assumption) | assumption)
                  obtain ⟨ad162, e162, hx162_0⟩ := Kd.at_string HR0.out x5_1 p162 q162
                  cases e162
                  replace p162 := eq_true p162
                  replace q162 := eq_true q162
                  go_wp2
                  go_meet
                  case rel => exact ⟨_, (rdOf ByteArray.empty l0 x5_1), (by first | rfl | (simp; done) | (simp [*]; done) | (simp [bne_nil_]; done)), H', ⟨by have := HK1.out; have := HJ2.out; first | omega | exact Nat.le_refl _⟩, by repeat (first | exact Drawn0.refl _ | apply Drawn0.step)⟩
                · rw [if_neg c8] at H
                  exact absurd H (by simp)
              · rw [if_neg c7] at H
                have c7b0 : decide (x5_1 < (l0.length : Int)) = false := decide_eq_false c7
                clear c7
                (first | rw [c7b0] | (simp only [i64_w, i32_w]; rw [c7b0]) | skip)
                have H' := Aside0.mk H
                clear H
                go_wp2
                go_meet
                case rel => exact ⟨_, ((⟨#[48]⟩ : ByteArray)), (by first | rfl | (simp; done) | (simp [*]; done) | (simp [bne_nil_]; done)), H', ⟨by have := HK1.out; have := HJ2.out; first | omega | exact Nat.le_refl _⟩, by repeat (first | exact Drawn0.refl _ | apply Drawn0.step)⟩
            case rest =>
              clear HC6
              try clear c1
              try clear p1
              try clear q1
              try clear hx1
              try clear c2
              try clear p2
              try clear c4
              try clear c4b0
              try clear c5
              try clear c7
              try clear c7b0
              try clear c8
              try clear c8b0
              try clear hx162_0
              try clear p162
              try clear p2
              try clear q162
              obtain ⟨kq, x6_5, rfl, HA, HJ5, ⟨mc5, rfl⟩⟩ := hcut
              cases kq with
              | zero => exact absurd HA.out (by simp [spec_RubySegments.j2])
              | succ kj5 =>
                have H := HA.out
                clear HA
                simp only [spec_RubySegments.j2] at H
                have HC9 := Aside0.mk H
                clear H
                go_upto_if 34 with (fail)
                go_cut [7] (fun v7 wc => ∃ (kq : Nat) (x7_8 : ByteArray), v7 = .string x7_8 ∧ Aside0 (spec_RubySegments.j3 kq l0 l1 x5_1 x6_5 x7_8 = some r) ∧ Aside0 (kq ≤ kj5) ∧ Drawn0 w wc)
                case first =>
                  have H := HC9.out
                  clear HC9
                  by_cases c10 : x5_1 < (l1.length : Int)
                  · rw [if_pos c10] at H
                    have c10b0 : decide (x5_1 < (l1.length : Int)) = true := decide_eq_true c10
                    clear c10
                    (first | rw [c10b0] | (simp only [i64_w, i32_w]; rw [c10b0]) | skip)
                    by_cases c11 : 0 ≤ x5_1
                    · rw [if_pos c11] at H
                      have c11b0 : decide (0 ≤ x5_1) = true := decide_eq_true c11
                      clear c11
                      have H' := Aside0.mk H
                      clear H
                      have p163 : 0 ≤ (x5_1 : Int) := of_decide_eq_true (by first | (with_reducible assumption) | assumption)
                      have q163 : x5_1 < (l1.length : Int) := of_decide_eq_true (by first | (with_reducible assumption) | assumption)
                      obtain ⟨ad163, e163, hx163_0⟩ := Kd.at_string HR1.out x5_1 p163 q163
                      cases e163
                      replace p163 := eq_true p163
                      replace q163 := eq_true q163
                      go_wp2
                      go_meet
                      case rel => exact ⟨_, (rdOf ByteArray.empty l1 x5_1), (by first | rfl | (simp; done) | (simp [*]; done) | (simp [bne_nil_]; done)), H', ⟨by have := HK1.out; have := HJ2.out; have := HJ5.out; first | omega | exact Nat.le_refl _⟩, by repeat (first | exact Drawn0.refl _ | apply Drawn0.step)⟩
                    · rw [if_neg c11] at H
                      exact absurd H (by simp)
                  · rw [if_neg c10] at H
                    have c10b0 : decide (x5_1 < (l1.length : Int)) = false := decide_eq_false c10
                    clear c10
                    (first | rw [c10b0] | (simp only [i64_w, i32_w]; rw [c10b0]) | skip)
                    have H' := Aside0.mk H
                    clear H
                    go_wp2
                    go_meet
                    case rel => exact ⟨_, ((⟨#[48]⟩ : ByteArray)), (by first | rfl | (simp; done) | (simp [*]; done) | (simp [bne_nil_]; done)), H', ⟨by have := HK1.out; have := HJ2.out; have := HJ5.out; first | omega | exact Nat.le_refl _⟩, by repeat (first | exact Drawn0.refl _ | apply Drawn0.step)⟩
                case rest =>
                  clear HC9
                  try clear c1
                  try clear p1
                  try clear q1
                  try clear hx1
                  try clear c2
                  try clear p2
                  try clear c4
                  try clear c4b0
                  try clear c5
                  try clear c7
                  try clear c7b0
                  try clear c8
                  try clear c8b0
                  try clear c10
                  try clear c10b0
                  try clear c11
                  try clear c11b0
                  try clear hx162_0
                  try clear hx163_0
                  try clear p1
                  try clear p162
                  try clear p163
                  try clear p2
                  try clear q1
                  try clear q162
                  try clear q163
                  obtain ⟨kq, x7_8, rfl, HA, HJ8, ⟨mc8, rfl⟩⟩ := hcut
                  cases kq with
                  | zero => exact absurd HA.out (by simp [spec_RubySegments.j3])
                  | succ kj8 =>
                    have H := HA.out
                    clear HA
                    simp only [spec_RubySegments.j3] at H
                    replace H := Option.bind_eq_some_iff.mp H
                    obtain ⟨t164, A120, H⟩ := H
                    replace H : ((spec_allDigits.f kj8 x7_8).bind fun t165 => (if t164 = true then (spec_RubySegments.j4 kj8 l0 l1 x5_1 x6_5 x7_8 t164 t165 t165) else (spec_RubySegments.j4 kj8 l0 l1 x5_1 x6_5 x7_8 t164 t165 false))) = some r := H
                    have A12 := Aside0.mk A120
                    clear A120
                    replace H := Option.bind_eq_some_iff.mp H
                    obtain ⟨t165, A130, H⟩ := H
                    replace H : (if t164 = true then (spec_RubySegments.j4 kj8 l0 l1 x5_1 x6_5 x7_8 t164 t165 t165) else (spec_RubySegments.j4 kj8 l0 l1 x5_1 x6_5 x7_8 t164 t165 false)) = some r := H
                    have A13 := Aside0.mk A130
                    clear A130
                    have HC14 := Aside0.mk H
                    clear H
                    go_upto_region 12 with (first | ((with_reducible refine gate_callee (f := 44) rfl ?_); refine goesL_ (some 40) rfl rfl Tryd.func44 (by kernel_rfl) rfl #[.string x6_5] rfl (by (try simp only [List.map_toArray, List.map_cons, List.map_nil]); first | done | rfl | (simp only [List.length_drop, List.length_take]; rfl)) ?_; (with_reducible refine (spec_allDigits.calls kj8 x6_5 t164 _ A12.out).mono ?_); rintro e w' ⟨rfl, ⟨nd, rfl⟩⟩; refine ⟨_, rfl, ?_⟩) | ((with_reducible refine gate_callee (f := 44) rfl ?_); refine goesL_ (some 42) rfl rfl Tryd.func44 (by kernel_rfl) rfl #[.string x7_8] rfl (by (try simp only [List.map_toArray, List.map_cons, List.map_nil]); first | done | rfl | (simp only [List.length_drop, List.length_take]; rfl)) ?_; (with_reducible refine (spec_allDigits.calls kj8 x7_8 t165 _ A13.out).mono ?_); rintro e w' ⟨rfl, ⟨nd, rfl⟩⟩; refine ⟨_, rfl, ?_⟩))
                    (try simp only [Act.put, List.setIfInBounds_toArray, List.set_cons_zero, List.set_cons_succ])
                    go_cut [46] (fun v46 wc => ∃ (kq : Nat) (x46_13 : Bool), v46 = .bool x46_13 ∧ Aside0 (spec_RubySegments.j4 kq l0 l1 x5_1 x6_5 x7_8 t164 t165 x46_13 = some r) ∧ Aside0 (kq ≤ kj8) ∧ Drawn0 w wc)
                    case first =>
                      have H := HC14.out
                      clear HC14
                      by_cases c15 : t164 = true
                      · subst c15
                        have H1 : (spec_RubySegments.j4 kj8 l0 l1 x5_1 x6_5 x7_8 true t165 t165) = some r := by rw [if_pos rfl] at H; exact H
                        clear H
                        have H := H1
                        clear H1
                        have H' := Aside0.mk H
                        clear H
                        go_wp2
                        go_meet
                        case rel => exact ⟨_, (t165), (by first | rfl | (simp; done) | (simp [*]; done) | (simp [bne_nil_]; done)), H', ⟨by have := HK1.out; have := HJ2.out; have := HJ5.out; have := HJ8.out; first | omega | exact Nat.le_refl _⟩, by repeat (first | exact Drawn0.refl _ | apply Drawn0.step)⟩
                      · replace c15 := Bool.eq_false_iff.mpr c15
                        subst c15
                        have H1 : (spec_RubySegments.j4 kj8 l0 l1 x5_1 x6_5 x7_8 false t165 false) = some r := by rw [if_neg (show ¬ (false = true) by decide)] at H; exact H
                        clear H
                        have H := H1
                        clear H1
                        have H' := Aside0.mk H
                        clear H
                        go_wp2
                        go_meet
                        case rel => exact ⟨_, (false), (by first | rfl | (simp; done) | (simp [*]; done) | (simp [bne_nil_]; done)), H', ⟨by have := HK1.out; have := HJ2.out; have := HJ5.out; have := HJ8.out; first | omega | exact Nat.le_refl _⟩, by repeat (first | exact Drawn0.refl _ | apply Drawn0.step)⟩
                    case rest =>
                      clear HC14
                      try clear c1
                      try clear p1
                      try clear q1
                      try clear hx1
                      try clear c2
                      try clear p2
                      try clear c4
                      try clear c4b0
                      try clear c5
                      try clear c7
                      try clear c7b0
                      try clear c8
                      try clear c8b0
                      try clear c10
                      try clear c10b0
                      try clear c11
                      try clear c11b0
                      try clear c15
                      try clear hx162_0
                      try clear hx163_0
                      try clear p1
                      try clear p162
                      try clear p163
                      try clear p2
                      try clear q1
                      try clear q162
                      try clear q163
                      obtain ⟨kq, x46_13, rfl, HA, HJ13, ⟨mc13, rfl⟩⟩ := hcut
                      cases kq with
                      | zero => exact absurd HA.out (by simp [spec_RubySegments.j4])
                      | succ kj13 =>
                        have H := HA.out
                        clear HA
                        simp only [spec_RubySegments.j4] at H
                        by_cases c16 : x46_13 = true
                        · subst c16
                          have H1 : ((spec_orderNumbers.f kj13 x6_5 x7_8).bind fun t166 => (if t166 = 0 then (spec_RubySegments.l0 kj13 l0 l1 (wrap64 (x5_1 + 1))) else (some t166))) = some r := by rw [if_pos rfl] at H; exact H
                          clear H
                          have H := H1
                          clear H1
                          replace H := Option.bind_eq_some_iff.mp H
                          obtain ⟨t166, A170, H⟩ := H
                          replace H : (if t166 = 0 then (spec_RubySegments.l0 kj13 l0 l1 (wrap64 (x5_1 + 1))) else (some t166)) = some r := H
                          have A17 := Aside0.mk A170
                          clear A170
                          by_cases c18 : t166 = 0
                          · rw [if_pos c18] at H
                            have c18b0 : (t166 == 0) = true := beq_iff_eq.mpr c18
                            have c18b1 : (t166 != 0) = false := bne_eq_false_iff_eq.mpr c18
                            clear c18
                            have H' := Aside0.mk H
                            clear H
                            go_wp2_with (first | ((with_reducible refine gate_callee (f := 46) rfl ?_); refine goesL_ (some 53) rfl rfl Tryd.func46 (by kernel_rfl) rfl #[.string x6_5, .string x7_8] rfl (by (try simp only [List.map_toArray, List.map_cons, List.map_nil]); first | done | rfl | (simp only [List.length_drop, List.length_take]; rfl)) ?_; (with_reducible refine (spec_orderNumbers.calls kj13 x6_5 x7_8 t166 _ A17.out).mono ?_); rintro e w' ⟨rfl, ⟨nd, rfl⟩⟩; refine ⟨_, rfl, ?_⟩))
                            go_roundg kj13
                            case measure => have := HK1.out; have := HJ2.out; have := HJ5.out; have := HJ8.out; have := HJ13.out; omega
                            case rel => exact ⟨(wrap64 (x5_1 + 1)), (by first | rfl | (simp; done) | (simp [*]; done) | (simp [bne_nil_]; done)), H', ⟨by have := HK1.out; have := HJ2.out; have := HJ5.out; have := HJ8.out; have := HJ13.out; omega⟩, by repeat (first | exact Drawn0.refl _ | apply Drawn0.step)⟩
                          · rw [if_neg c18] at H
                            have c18b0 : (t166 == 0) = false := beq_eq_false_iff_ne.mpr c18
                            have c18b1 : (t166 != 0) = true := bne_iff_ne.mpr c18
                            obtain rfl := Option.some.inj H
                            go_wp2_with (first | ((with_reducible refine gate_callee (f := 46) rfl ?_); refine goesL_ (some 53) rfl rfl Tryd.func46 (by kernel_rfl) rfl #[.string x6_5, .string x7_8] rfl (by (try simp only [List.map_toArray, List.map_cons, List.map_nil]); first | done | rfl | (simp only [List.length_drop, List.length_take]; rfl)) ?_; (with_reducible refine (spec_orderNumbers.calls kj13 x6_5 x7_8 t166 _ A17.out).mono ?_); rintro e w' ⟨rfl, ⟨nd, rfl⟩⟩; refine ⟨_, rfl, ?_⟩))
                            go_ret
                            exact ⟨by first | rfl | (simp; done) | (simp [*]; done) | (simp [bne_nil_]; done), by repeat (first | exact Drawn0.refl _ | apply Drawn0.step)⟩
                        · replace c16 := Bool.eq_false_iff.mpr c16
                          subst c16
                          have H1 : (if t164 = true then (if 1 = 0 then (spec_RubySegments.l0 kj13 l0 l1 (wrap64 (x5_1 + 1))) else (some 1)) else (if t165 = true then (if (-1) = 0 then (spec_RubySegments.l0 kj13 l0 l1 (wrap64 (x5_1 + 1))) else (some (-1))) else ((Giv.spec_order.f x6_5 x7_8).bind fun t167 => (if t167 = 0 then (spec_RubySegments.l0 kj13 l0 l1 (wrap64 (x5_1 + 1))) else (some t167))))) = some r := by rw [if_neg (show ¬ (false = true) by decide)] at H; exact H
                          clear H
                          have H := H1
                          clear H1
                          by_cases c19 : t164 = true
                          · subst c19
                            have H1 : (if 1 = 0 then (spec_RubySegments.l0 kj13 l0 l1 (wrap64 (x5_1 + 1))) else (some 1)) = some r := by rw [if_pos rfl] at H; exact H
                            clear H
                            have H := H1
                            clear H1
                            by_cases c20 : 1 = 0
                            · exact absurd c20 (by decide)
                            · rw [if_neg c20] at H
                              have c20b0 : (1 == 0) = false := beq_eq_false_iff_ne.mpr c20
                              have c20b1 : (1 != 0) = true := bne_iff_ne.mpr c20
                              obtain rfl := Option.some.inj H
                              go_wp2
                              go_ret
                              exact ⟨by first | rfl | (simp; done) | (simp [*]; done) | (simp [bne_nil_]; done), by repeat (first | exact Drawn0.refl _ | apply Drawn0.step)⟩
                          · replace c19 := Bool.eq_false_iff.mpr c19
                            subst c19
                            have H1 : (if t165 = true then (if (-1) = 0 then (spec_RubySegments.l0 kj13 l0 l1 (wrap64 (x5_1 + 1))) else (some (-1))) else ((Giv.spec_order.f x6_5 x7_8).bind fun t167 => (if t167 = 0 then (spec_RubySegments.l0 kj13 l0 l1 (wrap64 (x5_1 + 1))) else (some t167)))) = some r := by rw [if_neg (show ¬ (false = true) by decide)] at H; exact H
                            clear H
                            have H := H1
                            clear H1
                            by_cases c21 : t165 = true
                            · subst c21
                              have H1 : (if (-1) = 0 then (spec_RubySegments.l0 kj13 l0 l1 (wrap64 (x5_1 + 1))) else (some (-1))) = some r := by rw [if_pos rfl] at H; exact H
                              clear H
                              have H := H1
                              clear H1
                              by_cases c22 : (-1) = 0
                              · exact absurd c22 (by decide)
                              · rw [if_neg c22] at H
                                have c22b0 : ((-1) == 0) = false := beq_eq_false_iff_ne.mpr c22
                                have c22b1 : ((-1) != 0) = true := bne_iff_ne.mpr c22
                                obtain rfl := Option.some.inj H
                                go_wp2
                                go_ret
                                exact ⟨by first | rfl | (simp; done) | (simp [*]; done) | (simp [bne_nil_]; done), by repeat (first | exact Drawn0.refl _ | apply Drawn0.step)⟩
                            · replace c21 := Bool.eq_false_iff.mpr c21
                              subst c21
                              have H1 : ((Giv.spec_order.f x6_5 x7_8).bind fun t167 => (if t167 = 0 then (spec_RubySegments.l0 kj13 l0 l1 (wrap64 (x5_1 + 1))) else (some t167))) = some r := by rw [if_neg (show ¬ (false = true) by decide)] at H; exact H
                              clear H
                              have H := H1
                              clear H1
                              replace H := Option.bind_eq_some_iff.mp H
                              obtain ⟨t167, A230, H⟩ := H
                              replace H : (if t167 = 0 then (spec_RubySegments.l0 kj13 l0 l1 (wrap64 (x5_1 + 1))) else (some t167)) = some r := H
                              have A23 := Aside0.mk A230
                              clear A230
                              by_cases c24 : t167 = 0
                              · rw [if_pos c24] at H
                                have c24b0 : (t167 == 0) = true := beq_iff_eq.mpr c24
                                have c24b1 : (t167 != 0) = false := bne_eq_false_iff_eq.mpr c24
                                clear c24
                                have H' := Aside0.mk H
                                clear H
                                go_wp2_with (first | ((with_reducible refine gate_callee (f := 47) rfl ?_); refine goesL_ (some 45) rfl rfl Tryd.func47 (by kernel_rfl) rfl #[.string x6_5, .string x7_8] rfl (by (try simp only [List.map_toArray, List.map_cons, List.map_nil]); first | done | rfl | (simp only [List.length_drop, List.length_take]; rfl)) ?_; (with_reducible refine (Giv.spec_order.calls x6_5 x7_8 t167 _ A23.out).mono ?_); rintro e w' ⟨rfl, ⟨nd, rfl⟩⟩; refine ⟨_, rfl, ?_⟩))
                                go_roundg kj13
                                case measure => have := HK1.out; have := HJ2.out; have := HJ5.out; have := HJ8.out; have := HJ13.out; omega
                                case rel => exact ⟨(wrap64 (x5_1 + 1)), (by first | rfl | (simp; done) | (simp [*]; done) | (simp [bne_nil_]; done)), H', ⟨by have := HK1.out; have := HJ2.out; have := HJ5.out; have := HJ8.out; have := HJ13.out; omega⟩, by repeat (first | exact Drawn0.refl _ | apply Drawn0.step)⟩
                              · rw [if_neg c24] at H
                                have c24b0 : (t167 == 0) = false := beq_eq_false_iff_ne.mpr c24
                                have c24b1 : (t167 != 0) = true := bne_iff_ne.mpr c24
                                obtain rfl := Option.some.inj H
                                go_wp2_with (first | ((with_reducible refine gate_callee (f := 47) rfl ?_); refine goesL_ (some 45) rfl rfl Tryd.func47 (by kernel_rfl) rfl #[.string x6_5, .string x7_8] rfl (by (try simp only [List.map_toArray, List.map_cons, List.map_nil]); first | done | rfl | (simp only [List.length_drop, List.length_take]; rfl)) ?_; (with_reducible refine (Giv.spec_order.calls x6_5 x7_8 t167 _ A23.out).mono ?_); rintro e w' ⟨rfl, ⟨nd, rfl⟩⟩; refine ⟨_, rfl, ?_⟩))
                                go_ret
                                exact ⟨by first | rfl | (simp; done) | (simp [*]; done) | (simp [bne_nil_]; done), by repeat (first | exact Drawn0.refl _ | apply Drawn0.step)⟩
          · replace c5 := Bool.eq_false_iff.mpr c5
            subst c5
            have H1 : (some 0) = some r := by rw [if_neg (show ¬ (false = true) by decide)] at H; exact H
            clear H
            have H := H1
            clear H1
            obtain rfl := Option.some.inj H
            go_wp2
            go_ret
            exact ⟨by first | rfl | (simp; done) | (simp [*]; done) | (simp [bne_nil_]; done), by repeat (first | exact Drawn0.refl _ | apply Drawn0.step)⟩

/-! ### spec_RubyTrim: function 54 -/
def spec_RubyTrim.l0 : Nat → List ByteArray → Int → Option (List ByteArray)
  | 0, _, _ => none
  | k + 1, x0, x3 => if x3 > 0 then (if 0 ≤ (wrap64 (x3 - 1)) then (if (wrap64 (x3 - 1)) < (x0.length : Int) then (if (rdOf ByteArray.empty x0 (wrap64 (x3 - 1))).toList = ([48] : List UInt8) then (spec_RubyTrim.l0 k x0 (wrap64 (x3 - 1))) else (if 0 ≤ x3 then (if x3 ≤ (x0.length : Int) then (if ([] : List ByteArray).length + (x0.take (x3 : Int).toNat).length < 8796093022208 then (some (([] : List ByteArray) ++ (x0.take (x3 : Int).toNat))) else (none)) else (none)) else (none))) else (none)) else (none)) else (if 0 ≤ x3 then (if x3 ≤ (x0.length : Int) then (if ([] : List ByteArray).length + (x0.take (x3 : Int).toNat).length < 8796093022208 then (some (([] : List ByteArray) ++ (x0.take (x3 : Int).toNat))) else (none)) else (none)) else (none))
def spec_RubyTrim.f (k : Nat) (l0 : List ByteArray) : Option (List ByteArray) := spec_RubyTrim.l0 k l0 (l0.length : Int)
theorem spec_RubyTrim.mono_l : ∀ k, (∀ y0 y1, LeO (spec_RubyTrim.l0 k y0 y1) (spec_RubyTrim.l0 (k + 1) y0 y1))
  | 0 => fun _ _ r h => by simp [spec_RubyTrim.l0] at h
  | k + 1 => by
    have ih0 := spec_RubyTrim.mono_l k
    · intro y0 y1
      unfold spec_RubyTrim.l0
      repeat' first
      | (with_reducible exact ih0 _ _)
      | (with_reducible exact LeO.refl _)
      | (with_reducible exact LeO.none _)
      | (with_reducible refine LeO.ite ?_ ?_)
      | (with_reducible refine LeO.bind ?_ (fun _ => ?_))
      | exact ih0 _ _
      | exact LeO.none _
      | refine LeO.ite ?_ ?_
      | refine LeO.bind ?_ (fun _ => ?_)
theorem spec_RubyTrim.mono : ∀ a0 k, LeO (spec_RubyTrim.f k a0) (spec_RubyTrim.f (k + 1) a0) := by
  intro a0 k
  have ih0 := spec_RubyTrim.mono_l k
  unfold spec_RubyTrim.f
  repeat' first
      | (with_reducible exact ih0 _ _)
      | (with_reducible exact LeO.refl _)
      | (with_reducible exact LeO.none _)
      | (with_reducible refine LeO.ite ?_ ?_)
      | (with_reducible refine LeO.bind ?_ (fun _ => ?_))
      | exact ih0 _ _
      | exact LeO.none _
      | refine LeO.ite ?_ ?_
      | refine LeO.bind ?_ (fun _ => ?_)
set_option maxHeartbeats 8000000 in
set_option maxRecDepth 100000 in
theorem spec_RubyTrim.calls (k : Nat) (A0 : Option Addr) (c0 : Nat) (l0 : List ByteArray) (r : List ByteArray) (w : World) (hr0 : Kd.C Kd.string w A0 l0.length l0) (hc0 : l0.length ≤ c0) (h : spec_RubyTrim.f k l0 = some r) :
    Calls Tryd.prog 54 #[.slice A0 l0.length c0] w fun e w' => ∃ v0_ : Value, e = .returned (v0_) ∧ Kd.R Kd.string 9 w' w.heap.size (fun _ => True) v0_ r ∧ Below w.heap.size w w' := by
  have HR0 := Aside0.mk hr0
  have HC0 := Aside0.mk hc0
  clear hr0 hc0
  have HB := Aside0.mk (Below.refl w.heap.size w)
  have H : (spec_RubyTrim.l0 k l0 (l0.length : Int)) = some r := h
  clear h
  have H' := Aside0.mk H
  clear H
  go_enter Tryd.func54, Tryd.ntmps54
  go_wp2
  go_loopg [3] k (fun kq v3 w' => ∃ (x3_1 : Int), v3 = .int .i64 x3_1 ∧ Aside0 (spec_RubyTrim.l0 kq l0 x3_1 = some r) ∧ Aside0 (kq ≤ k) ∧ Aside0 (Below w.heap.size w w'))
  case atStart => exact ⟨((l0.length : Int)), (by first | rfl | (simp; done) | (simp [*]; done) | (simp [bne_nil_]; done)), H', ⟨Nat.le_refl _⟩, ⟨by repeat (first | (with_reducible first | exact HB.out | apply below_alloc | apply pw_below_drewN | apply below_drew1) | exact HB.out)⟩⟩
  case round =>
    clear H'
    obtain ⟨x3_1, rfl, HA, HK1, HB⟩ := hrel
    cases gk with
    | zero => exact absurd HA.out (by simp [spec_RubyTrim.l0])
    | succ k1 =>
      have H := HA.out
      clear HA
      simp only [spec_RubyTrim.l0] at H
      by_cases c2 : x3_1 > 0
      · rw [if_pos c2] at H
        have c2b0 : decide (0 < x3_1) = true := decide_eq_true c2
        clear c2
        obtain ⟨ji3, hji3⟩ : ∃ j_ : Int, (wrap64 (x3_1 - 1)) = j_ := ⟨_, rfl⟩
        replace H : (if 0 ≤ (ji3) then (if (ji3) < (l0.length : Int) then (if (rdOf ByteArray.empty l0 (ji3)).toList = ([48] : List UInt8) then (spec_RubyTrim.l0 k1 l0 ji3) else (if 0 ≤ x3_1 then (if x3_1 ≤ (l0.length : Int) then (if ([] : List ByteArray).length + (l0.take (x3_1 : Int).toNat).length < 8796093022208 then (some (([] : List ByteArray) ++ (l0.take (x3_1 : Int).toNat))) else (none)) else (none)) else (none))) else (none)) else (none)) = some r := by first | (rw [hji3] at H; exact H) | (simp only [hji3] at H ⊢; exact H)
        have hji3w : (IntKind.i64.wrap (x3_1 - 1)) = ji3 := (i64_w _).trans hji3
        by_cases c4 : 0 ≤ (ji3)
        · rw [if_pos c4] at H
          have c4b0 : decide (0 ≤ (ji3)) = true := decide_eq_true c4
          clear c4
          by_cases c5 : (ji3) < (l0.length : Int)
          · rw [if_pos c5] at H
            have c5b0 : decide ((ji3) < (l0.length : Int)) = true := decide_eq_true c5
            clear c5
            by_cases c6 : (rdOf ByteArray.empty l0 (ji3)).toList = ([48] : List UInt8)
            · rw [if_pos c6] at H
              have c6b0 : ((rdOf ByteArray.empty l0 (ji3)).toList == ([48] : List UInt8)) = true := beq_iff_eq.mpr c6
              have c6b1 : ((rdOf ByteArray.empty l0 (ji3)).toList != ([48] : List UInt8)) = false := bne_eq_false_iff_eq.mpr c6
              clear c6
              have H' := Aside0.mk H
              clear H
              have p168 : 0 ≤ ((ji3) : Int) := of_decide_eq_true (by first | (with_reducible assumption) | assumption)
              have q168 : (ji3) < (l0.length : Int) := of_decide_eq_true (by first | (with_reducible assumption) | assumption)
              obtain ⟨ad168, e168, hx168_0⟩ := Kd.at_string HR0.out (ji3) p168 q168
              cases e168
              replace hx168_0 := (HB.out.cell (World.block_lt_of_cell? w _ hx168_0)).trans hx168_0
              replace p168 := eq_true p168
              replace q168 := eq_true q168
              go_wp2
              go_roundg k1
              case measure => have := HK1.out; omega
              case rel => exact ⟨(ji3), (by first | rfl | (simp; done) | (simp only [← hji3] <;> (first | rfl | simp)) | (simp [*]; done)), H', ⟨by have := HK1.out; omega⟩, ⟨by repeat (first | (with_reducible first | exact HB.out | apply below_alloc | apply pw_below_drewN | apply below_drew1) | exact HB.out)⟩⟩
            · rw [if_neg c6] at H
              have c6b0 : ((rdOf ByteArray.empty l0 (ji3)).toList == ([48] : List UInt8)) = false := beq_eq_false_iff_ne.mpr c6
              have c6b1 : ((rdOf ByteArray.empty l0 (ji3)).toList != ([48] : List UInt8)) = true := bne_iff_ne.mpr c6
              by_cases c7 : 0 ≤ x3_1
              · rw [if_pos c7] at H
                have c7b0 := eq_true c7
                have c7b1 : decide (0 ≤ x3_1) = true := decide_eq_true c7
                clear c7
                by_cases c8 : x3_1 ≤ (l0.length : Int)
                · rw [if_pos c8] at H
                  have c8b0 := eq_true c8
                  have c8b1 : decide (x3_1 ≤ (l0.length : Int)) = true := decide_eq_true c8
                  clear c8
                  by_cases c9 : ([] : List ByteArray).length + (l0.take (x3_1 : Int).toNat).length < 8796093022208
                  · rw [if_pos c9] at H
                    have LMc9 := Aside0.mk c9
                    clear c9
                    obtain ⟨y170, hy170⟩ : ∃ y_ : List ByteArray, y_ = (([] : List ByteArray) ++ (l0.take (x3_1 : Int).toNat)) := ⟨_, rfl⟩
                    replace H : (some y170) = some r := by first | (rw [hy170]; with_reducible exact H) | (have H2_ := (Option.bind_some _ _).symm.trans H; rw [hy170]; with_reducible exact H2_) | (have H2_ := (Option.bind_some _ _).symm.trans H; with_reducible exact H2_) | with_reducible exact H | (rw [hy170]; exact H) | exact H
                    have Ny170 := Aside0.mk hy170
                    clear hy170
                    obtain rfl := Option.some.inj H
                    have p168 : 0 ≤ ((ji3) : Int) := of_decide_eq_true (by first | (with_reducible assumption) | assumption)
                    have q168 : (ji3) < (l0.length : Int) := of_decide_eq_true (by first | (with_reducible assumption) | assumption)
                    obtain ⟨ad168, e168, hx168_0⟩ := Kd.at_string HR0.out (ji3) p168 q168
                    cases e168
                    replace hx168_0 := (HB.out.cell (World.block_lt_of_cell? w _ hx168_0)).trans hx168_0
                    replace p168 := eq_true p168
                    replace q168 := eq_true q168
                    obtain ⟨i010, hi010, _, hsz10, _⟩ := info_parts info9
                    obtain ⟨hcut10, hA10, hC10⟩ := print_take_of (P := Tryd.prog) Value.string (⟨#[]⟩ : ByteArray) 28 9 .i64 Tryd.underlying28 hi010 hsz10 (some ad168) c0 l0 x3_1 (of_decide_eq_true (by first | (with_reducible assumption) | assumption)) (of_decide_eq_true (by first | (with_reducible assumption) | assumption)) HC0.out
                    have HR169 := Aside0.mk (Kd.C_of_reads (h1 := fun _ => rfl) (hA10 _ (Kd.reads_of_C HR0.out)))
                    have HC169 := Aside0.mk hC10
                    clear hA10 hC10 hi010 hsz10
                    go_wp2_with (first | ((with_reducible refine gate_builtin (b := .append) (xs := #[.const (.slice none 0 0), .tmp 20]) rfl ?_); at_builtin; refine Kd.R_append_rows Kd.string (w0 := w) w.heap.size rfl (.const (.slice none 0 0)) (.tmp 20) 28 9 (.string ⟨#[]⟩) 16 rfl Tryd.underlying28 info9 rfl (by decide) (by omega) (.slice none 0 0) ([] : List ByteArray) (l0.take (x3_1 : Int).toNat) _ _ _ (fun _ => True) (fun _ => False) rfl rfl ?aO ?aR (fun _ _ h => h) (fun _ h => h.elim) ?aF ?aB ?aS ?aL ?_; (case aR => first | (refine Eq.subst (motive := fun z => ReadsRow _ _ _ _ z _) (show (l0.take (x3_1 : Int).toNat).length = x3_1.toNat from (by rw [List.length_take]; have h_ : (x3_1 : Int) ≤ (l0.length : Int) := of_decide_eq_true (by first | (with_reducible assumption) | assumption); omega)) ?_; repeat (first | exact (Kd.C_below HR169.out HB.out) | (with_reducible refine Kd.C_alloc ?_ _) | (with_reducible refine Kd.C_drewN ?_ _) | (with_reducible refine Kd.C_drew ?_))) | (repeat (first | exact (Kd.C_below HR169.out HB.out) | (with_reducible refine Kd.C_alloc ?_ _) | (with_reducible refine Kd.C_drewN ?_ _) | (with_reducible refine Kd.C_drew ?_)))); (case aB => exact (by repeat (first | (with_reducible first | exact HB.out | apply below_alloc | apply pw_below_drewN | apply below_drew1) | exact HB.out))); (case aF => exact (fun _ _ => trivial)); (case aO => exact ((Kd.R_nil _ _ _ _ (fun _ => True)))); (case aS => exact (below_size (by repeat (first | (with_reducible first | exact HB.out | apply below_alloc | apply pw_below_drewN | apply below_drew1) | exact HB.out)))); (case aL => have := LMc9.out; have hlx_ := (show (l0.take (x3_1 : Int).toNat).length = x3_1.toNat from (by rw [List.length_take]; have h_ : (x3_1 : Int) ≤ (l0.length : Int) := of_decide_eq_true (by first | (with_reducible assumption) | assumption); omega)); omega); intro v171 w11 ho hb hg hat; rw [← Ny170.out] at ho; have n0_ := Aside0.mk (hb); have n1_ := Aside0.mk (ho); clear HB; have HB := n0_; have HO172 := n1_; clear n0_ n1_; clear ho hb hg hat))
                    go_ret
                    exact ⟨_, by first | rfl | (simp [errW_none, errW_some] <;> rfl) | (simp only [← hji3]; first | rfl | (simp [errW_none, errW_some] <;> rfl)) | (simp [*, errW_none, errW_some] <;> rfl) | (simp [bne_nil_]; done), by (with_reducible repeat (first | apply Kd.R_alloc | apply Kd.R_drewN | apply Kd.R_drew)); exact HO172.out, by repeat (first | (with_reducible first | exact HB.out | apply below_alloc | apply pw_below_drewN | apply below_drew1) | exact HB.out)⟩
                  · rw [if_neg c9] at H
                    exact absurd H (by simp)
                · rw [if_neg c8] at H
                  exact absurd H (by simp)
              · rw [if_neg c7] at H
                exact absurd H (by simp)
          · rw [if_neg c5] at H
            exact absurd H (by simp)
        · rw [if_neg c4] at H
          exact absurd H (by simp)
      · rw [if_neg c2] at H
        have c2b0 : decide (0 < x3_1) = false := decide_eq_false c2
        clear c2
        by_cases c12 : 0 ≤ x3_1
        · rw [if_pos c12] at H
          have c12b0 := eq_true c12
          have c12b1 : decide (0 ≤ x3_1) = true := decide_eq_true c12
          clear c12
          by_cases c13 : x3_1 ≤ (l0.length : Int)
          · rw [if_pos c13] at H
            have c13b0 := eq_true c13
            have c13b1 : decide (x3_1 ≤ (l0.length : Int)) = true := decide_eq_true c13
            clear c13
            by_cases c14 : ([] : List ByteArray).length + (l0.take (x3_1 : Int).toNat).length < 8796093022208
            · rw [if_pos c14] at H
              have LMc14 := Aside0.mk c14
              clear c14
              obtain ⟨y174, hy174⟩ : ∃ y_ : List ByteArray, y_ = (([] : List ByteArray) ++ (l0.take (x3_1 : Int).toNat)) := ⟨_, rfl⟩
              replace H : (some y174) = some r := by first | (rw [hy174]; with_reducible exact H) | (have H2_ := (Option.bind_some _ _).symm.trans H; rw [hy174]; with_reducible exact H2_) | (have H2_ := (Option.bind_some _ _).symm.trans H; with_reducible exact H2_) | with_reducible exact H | (rw [hy174]; exact H) | exact H
              have Ny174 := Aside0.mk hy174
              clear hy174
              obtain rfl := Option.some.inj H
              obtain ⟨i015, hi015, _, hsz15, _⟩ := info_parts info9
              obtain ⟨hcut15, hA15, hC15⟩ := print_take_of (P := Tryd.prog) Value.string (⟨#[]⟩ : ByteArray) 28 9 .i64 Tryd.underlying28 hi015 hsz15 A0 c0 l0 x3_1 (of_decide_eq_true (by first | (with_reducible assumption) | assumption)) (of_decide_eq_true (by first | (with_reducible assumption) | assumption)) HC0.out
              have HR173 := Aside0.mk (Kd.C_of_reads (h1 := fun _ => rfl) (hA15 _ (Kd.reads_of_C HR0.out)))
              have HC173 := Aside0.mk hC15
              clear hA15 hC15 hi015 hsz15
              go_wp2_with (first | ((with_reducible refine gate_builtin (b := .append) (xs := #[.const (.slice none 0 0), .tmp 20]) rfl ?_); at_builtin; refine Kd.R_append_rows Kd.string (w0 := w) w.heap.size rfl (.const (.slice none 0 0)) (.tmp 20) 28 9 (.string ⟨#[]⟩) 16 rfl Tryd.underlying28 info9 rfl (by decide) (by omega) (.slice none 0 0) ([] : List ByteArray) (l0.take (x3_1 : Int).toNat) _ _ _ (fun _ => True) (fun _ => False) rfl rfl ?aO ?aR (fun _ _ h => h) (fun _ h => h.elim) ?aF ?aB ?aS ?aL ?_; (case aR => first | (refine Eq.subst (motive := fun z => ReadsRow _ _ _ _ z _) (show (l0.take (x3_1 : Int).toNat).length = x3_1.toNat from (by rw [List.length_take]; have h_ : (x3_1 : Int) ≤ (l0.length : Int) := of_decide_eq_true (by first | (with_reducible assumption) | assumption); omega)) ?_; repeat (first | exact (Kd.C_below HR173.out HB.out) | (with_reducible refine Kd.C_alloc ?_ _) | (with_reducible refine Kd.C_drewN ?_ _) | (with_reducible refine Kd.C_drew ?_))) | (repeat (first | exact (Kd.C_below HR173.out HB.out) | (with_reducible refine Kd.C_alloc ?_ _) | (with_reducible refine Kd.C_drewN ?_ _) | (with_reducible refine Kd.C_drew ?_)))); (case aB => exact (by repeat (first | (with_reducible first | exact HB.out | apply below_alloc | apply pw_below_drewN | apply below_drew1) | exact HB.out))); (case aF => exact (fun _ _ => trivial)); (case aO => exact ((Kd.R_nil _ _ _ _ (fun _ => True)))); (case aS => exact (below_size (by repeat (first | (with_reducible first | exact HB.out | apply below_alloc | apply pw_below_drewN | apply below_drew1) | exact HB.out)))); (case aL => have := LMc14.out; have hlx_ := (show (l0.take (x3_1 : Int).toNat).length = x3_1.toNat from (by rw [List.length_take]; have h_ : (x3_1 : Int) ≤ (l0.length : Int) := of_decide_eq_true (by first | (with_reducible assumption) | assumption); omega)); omega); intro v175 w16 ho hb hg hat; rw [← Ny174.out] at ho; have n0_ := Aside0.mk (hb); have n1_ := Aside0.mk (ho); clear HB; have HB := n0_; have HO176 := n1_; clear n0_ n1_; clear ho hb hg hat))
              go_ret
              exact ⟨_, by first | rfl | (simp [errW_none, errW_some] <;> rfl) | (simp [*, errW_none, errW_some] <;> rfl) | (simp [bne_nil_]; done), by (with_reducible repeat (first | apply Kd.R_alloc | apply Kd.R_drewN | apply Kd.R_drew)); exact HO176.out, by repeat (first | (with_reducible first | exact HB.out | apply below_alloc | apply pw_below_drewN | apply below_drew1) | exact HB.out)⟩
            · rw [if_neg c14] at H
              exact absurd H (by simp)
          · rw [if_neg c13] at H
            exact absurd H (by simp)
        · rw [if_neg c12] at H
          exact absurd H (by simp)

/-! ### spec_gemFirst: function 59 -/
mutual
def spec_gemFirst.j1 : Nat → List ByteArray → Int → Option (List ByteArray)
  | 0, _, _ => none
  | k + 1, x0, x3 => spec_gemFirst.l1 k x0 x3 x3
def spec_gemFirst.l1 : Nat → List ByteArray → Int → Int → Option (List ByteArray)
  | 0, _, _, _ => none
  | k + 1, x0, x3, x4 => if x4 > 0 then (if 0 ≤ (wrap64 (x4 - 1)) then (if (wrap64 (x4 - 1)) < (x0.length : Int) then (if (rdOf ByteArray.empty x0 (wrap64 (x4 - 1))).toList = ([48] : List UInt8) then (spec_gemFirst.l1 k x0 x3 (wrap64 (x4 - 1))) else (if 0 ≤ x4 then (if x4 ≤ (x0.length : Int) then (if ([] : List ByteArray).length + (x0.take (x4 : Int).toNat).length < 8796093022208 then ((some (([] : List ByteArray) ++ (x0.take (x4 : Int).toNat) : List ByteArray)).bind fun y181 => (if 0 ≤ x3 then (if x3 ≤ (x0.length : Int) then (if y181.length + (x0.drop (x3 : Int).toNat).length < 8796093022208 then (some (y181 ++ (x0.drop (x3 : Int).toNat))) else (none)) else (none)) else (none))) else (none)) else (none)) else (none))) else (none)) else (none)) else (if 0 ≤ x4 then (if x4 ≤ (x0.length : Int) then (if ([] : List ByteArray).length + (x0.take (x4 : Int).toNat).length < 8796093022208 then ((some (([] : List ByteArray) ++ (x0.take (x4 : Int).toNat) : List ByteArray)).bind fun y189 => (if 0 ≤ x3 then (if x3 ≤ (x0.length : Int) then (if y189.length + (x0.drop (x3 : Int).toNat).length < 8796093022208 then (some (y189 ++ (x0.drop (x3 : Int).toNat))) else (none)) else (none)) else (none))) else (none)) else (none)) else (none))
def spec_gemFirst.l0 : Nat → List ByteArray → Int → Option (List ByteArray)
  | 0, _, _ => none
  | k + 1, x0, x3 => if x3 < (x0.length : Int) then (if 0 ≤ x3 then ((spec_allDigits.f k (rdOf ByteArray.empty x0 x3)).bind fun t178 => (if t178 = true then (spec_gemFirst.l0 k x0 (wrap64 (x3 + 1))) else (spec_gemFirst.j1 k x0 x3))) else (none)) else (spec_gemFirst.j1 k x0 x3)
end
def spec_gemFirst.f (k : Nat) (l0 : List ByteArray) : Option (List ByteArray) := spec_gemFirst.l0 k l0 0
theorem spec_gemFirst.mono_l : ∀ k, (∀ y0 y1, LeO (spec_gemFirst.j1 k y0 y1) (spec_gemFirst.j1 (k + 1) y0 y1)) ∧ (∀ y0 y1 y2, LeO (spec_gemFirst.l1 k y0 y1 y2) (spec_gemFirst.l1 (k + 1) y0 y1 y2)) ∧ (∀ y0 y1, LeO (spec_gemFirst.l0 k y0 y1) (spec_gemFirst.l0 (k + 1) y0 y1))
  | 0 => ⟨fun _ _ r h => by simp [spec_gemFirst.j1] at h, fun _ _ _ r h => by simp [spec_gemFirst.l1] at h, fun _ _ r h => by simp [spec_gemFirst.l0] at h⟩
  | k + 1 => by
    obtain ⟨ih0, ih1, ih2⟩ := spec_gemFirst.mono_l k
    refine ⟨?_, ?_, ?_⟩
    · intro y0 y1
      unfold spec_gemFirst.j1
      repeat' first
      | (with_reducible exact ih0 _ _)
      | (with_reducible exact ih1 _ _ _)
      | (with_reducible exact ih2 _ _)
      | (with_reducible exact spec_allDigits.mono _ _)
      | (with_reducible exact LeO.refl _)
      | (with_reducible exact LeO.none _)
      | (with_reducible refine LeO.ite ?_ ?_)
      | (with_reducible refine LeO.bind ?_ (fun _ => ?_))
      | exact ih0 _ _
      | exact ih1 _ _ _
      | exact ih2 _ _
      | exact spec_allDigits.mono _ _
      | exact LeO.none _
      | refine LeO.ite ?_ ?_
      | refine LeO.bind ?_ (fun _ => ?_)
    · intro y0 y1 y2
      unfold spec_gemFirst.l1
      repeat' first
      | (with_reducible exact ih0 _ _)
      | (with_reducible exact ih1 _ _ _)
      | (with_reducible exact ih2 _ _)
      | (with_reducible exact spec_allDigits.mono _ _)
      | (with_reducible exact LeO.refl _)
      | (with_reducible exact LeO.none _)
      | (with_reducible refine LeO.ite ?_ ?_)
      | (with_reducible refine LeO.bind ?_ (fun _ => ?_))
      | exact ih0 _ _
      | exact ih1 _ _ _
      | exact ih2 _ _
      | exact spec_allDigits.mono _ _
      | exact LeO.none _
      | refine LeO.ite ?_ ?_
      | refine LeO.bind ?_ (fun _ => ?_)
    · intro y0 y1
      unfold spec_gemFirst.l0
      repeat' first
      | (with_reducible exact ih0 _ _)
      | (with_reducible exact ih1 _ _ _)
      | (with_reducible exact ih2 _ _)
      | (with_reducible exact spec_allDigits.mono _ _)
      | (with_reducible exact LeO.refl _)
      | (with_reducible exact LeO.none _)
      | (with_reducible refine LeO.ite ?_ ?_)
      | (with_reducible refine LeO.bind ?_ (fun _ => ?_))
      | exact ih0 _ _
      | exact ih1 _ _ _
      | exact ih2 _ _
      | exact spec_allDigits.mono _ _
      | exact LeO.none _
      | refine LeO.ite ?_ ?_
      | refine LeO.bind ?_ (fun _ => ?_)
theorem spec_gemFirst.mono : ∀ a0 k, LeO (spec_gemFirst.f k a0) (spec_gemFirst.f (k + 1) a0) := by
  intro a0 k
  obtain ⟨ih0, ih1, ih2⟩ := spec_gemFirst.mono_l k
  unfold spec_gemFirst.f
  repeat' first
      | (with_reducible exact ih0 _ _)
      | (with_reducible exact ih1 _ _ _)
      | (with_reducible exact ih2 _ _)
      | (with_reducible exact spec_allDigits.mono _ _)
      | (with_reducible exact LeO.refl _)
      | (with_reducible exact LeO.none _)
      | (with_reducible refine LeO.ite ?_ ?_)
      | (with_reducible refine LeO.bind ?_ (fun _ => ?_))
      | exact ih0 _ _
      | exact ih1 _ _ _
      | exact ih2 _ _
      | exact spec_allDigits.mono _ _
      | exact LeO.none _
      | refine LeO.ite ?_ ?_
      | refine LeO.bind ?_ (fun _ => ?_)
def spec_gemFirst.T7 : Bool × List (List Nat × List Nat) := (true, [([], []), ([], []), ([0, 1], [0, 1]), ([2], [2]), ([], []), ([], []), ([4, 5], [4, 5]), ([3, 6, 3], [3, 6]), ([7, 7, 0, 1, 2, 3, 4, 5, 6, 7], [7])])
def spec_gemFirst.B7 : List Nat := [0, 0, 3, 7, 0, 0, 48, 127, 255]
theorem spec_gemFirst.tab7 : rtab .any (opsOf Tryd.f59 7) = spec_gemFirst.T7 := by kernel_rfl
theorem spec_gemFirst.bits7 : waitsOk spec_gemFirst.T7.2 spec_gemFirst.B7 = true := by kernel_rfl
set_option maxHeartbeats 8000000 in
set_option maxRecDepth 100000 in
theorem spec_gemFirst.calls (k : Nat) (A0 : Option Addr) (c0 : Nat) (l0 : List ByteArray) (r : List ByteArray) (w : World) (hr0 : Kd.C Kd.string w A0 l0.length l0) (hc0 : l0.length ≤ c0) (h : spec_gemFirst.f k l0 = some r) :
    Calls Tryd.prog 59 #[.slice A0 l0.length c0] w fun e w' => ∃ v0_ : Value, e = .returned (v0_) ∧ Kd.R Kd.string 9 w' w.heap.size (fun _ => True) v0_ r ∧ Below w.heap.size w w' := by
  have HR0 := Aside0.mk hr0
  have HC0 := Aside0.mk hc0
  clear hr0 hc0
  have HB := Aside0.mk (Below.refl w.heap.size w)
  have H : (spec_gemFirst.l0 k l0 0) = some r := h
  clear h
  have HC2 := Aside0.mk H
  clear H
  go_enter Tryd.func59, Tryd.ntmps59
  go_upto_block 0 with (fail)
  go_cut [3] (fun v3 wc => ∃ (kq : Nat) (x3_1 : Int), v3 = .int .i64 x3_1 ∧ Aside0 (spec_gemFirst.j1 kq l0 x3_1 = some r) ∧ Aside0 (kq ≤ k) ∧ Aside0 (Below w.heap.size w wc))
  case first =>
    have H := HC2.out
    clear HC2
    have H' := Aside0.mk H
    clear H
    go_wp2
    go_loopg [3] k (fun kq v3 w' => ∃ (x3_1 : Int), v3 = .int .i64 x3_1 ∧ Aside0 (spec_gemFirst.l0 kq l0 x3_1 = some r) ∧ Aside0 (kq ≤ k) ∧ Aside0 (Below w.heap.size w w'))
    case atStart => exact ⟨(0), (by first | rfl | (simp; done) | (simp [*]; done) | (simp [bne_nil_]; done)), H', ⟨Nat.le_refl _⟩, ⟨by repeat (first | (with_reducible first | exact HB.out | apply below_alloc | apply pw_below_drewN | apply below_drew1) | exact HB.out)⟩⟩
    case round =>
      clear H'
      try clear p2
      obtain ⟨x3_1, rfl, HA, HK1, HB⟩ := hrel
      cases gk with
      | zero => exact absurd HA.out (by simp [spec_gemFirst.l0])
      | succ k1 =>
        have H := HA.out
        clear HA
        simp only [spec_gemFirst.l0] at H
        by_cases c3 : x3_1 < (l0.length : Int)
        · rw [if_pos c3] at H
          have c3b0 : decide (x3_1 < (l0.length : Int)) = true := decide_eq_true c3
          clear c3
          (first | rw [c3b0] | (simp only [i64_w, i32_w]; rw [c3b0]) | skip)
          by_cases c4 : 0 ≤ x3_1
          · rw [if_pos c4] at H
            have c4b0 : decide (0 ≤ x3_1) = true := decide_eq_true c4
            clear c4
            replace H := Option.bind_eq_some_iff.mp H
            obtain ⟨t178, A50, H⟩ := H
            replace H : (if t178 = true then (spec_gemFirst.l0 k1 l0 (wrap64 (x3_1 + 1))) else (spec_gemFirst.j1 k1 l0 x3_1)) = some r := H
            have A5 := Aside0.mk A50
            clear A50
            by_cases c6 : t178 = true
            · subst c6
              have H1 : (spec_gemFirst.l0 k1 l0 (wrap64 (x3_1 + 1))) = some r := by rw [if_pos rfl] at H; exact H
              clear H
              have H := H1
              clear H1
              have H' := Aside0.mk H
              clear H
              have p177 : 0 ≤ (x3_1 : Int) := of_decide_eq_true (by first | (with_reducible assumption) | assumption)
              have q177 : x3_1 < (l0.length : Int) := of_decide_eq_true (by first | (with_reducible assumption) | assumption)
              obtain ⟨ad177, e177, hx177_0⟩ := Kd.at_string HR0.out x3_1 p177 q177
              cases e177
              replace hx177_0 := (HB.out.cell (World.block_lt_of_cell? w _ hx177_0)).trans hx177_0
              replace p177 := eq_true p177
              replace q177 := eq_true q177
              go_wp2_with (first | (go_at_call 44; (with_reducible refine (spec_allDigits.calls k1 (rdOf ByteArray.empty l0 x3_1) true _ A5.out).mono ?_); rintro e w' ⟨rfl, ⟨nd, rfl⟩⟩))
              go_roundg k1
              case measure => have := HK1.out; omega
              case rel => exact ⟨(wrap64 (x3_1 + 1)), (by first | rfl | (simp; done) | (simp [*]; done) | (simp [bne_nil_]; done)), H', ⟨by have := HK1.out; omega⟩, ⟨by repeat (first | (with_reducible first | exact HB.out | apply below_alloc | apply pw_below_drewN | apply below_drew1) | exact HB.out)⟩⟩
            · replace c6 := Bool.eq_false_iff.mpr c6
              subst c6
              have H1 : (spec_gemFirst.j1 k1 l0 x3_1) = some r := by rw [if_neg (show ¬ (false = true) by decide)] at H; exact H
              clear H
              have H := H1
              clear H1
              have H' := Aside0.mk H
              clear H
              have p177 : 0 ≤ (x3_1 : Int) := of_decide_eq_true (by first | (with_reducible assumption) | assumption)
              have q177 : x3_1 < (l0.length : Int) := of_decide_eq_true (by first | (with_reducible assumption) | assumption)
              obtain ⟨ad177, e177, hx177_0⟩ := Kd.at_string HR0.out x3_1 p177 q177
              cases e177
              replace hx177_0 := (HB.out.cell (World.block_lt_of_cell? w _ hx177_0)).trans hx177_0
              replace p177 := eq_true p177
              replace q177 := eq_true q177
              go_wp2_with (first | (go_at_call 44; (with_reducible refine (spec_allDigits.calls k1 (rdOf ByteArray.empty l0 x3_1) false _ A5.out).mono ?_); rintro e w' ⟨rfl, ⟨nd, rfl⟩⟩))
              go_meet
              case rel => exact ⟨_, (x3_1), (by first | rfl | (simp; done) | (simp [*]; done) | (simp [bne_nil_]; done)), H', ⟨by have := HK1.out; first | omega | exact Nat.le_refl _⟩, ⟨by repeat (first | (with_reducible first | exact HB.out | apply below_alloc | apply pw_below_drewN | apply below_drew1) | exact HB.out)⟩⟩
          · rw [if_neg c4] at H
            exact absurd H (by simp)
        · rw [if_neg c3] at H
          have c3b0 : decide (x3_1 < (l0.length : Int)) = false := decide_eq_false c3
          clear c3
          (first | rw [c3b0] | (simp only [i64_w, i32_w]; rw [c3b0]) | skip)
          have H' := Aside0.mk H
          clear H
          go_wp2
          go_meet
          case rel => exact ⟨_, (x3_1), (by first | rfl | (simp; done) | (simp [*]; done) | (simp [bne_nil_]; done)), H', ⟨by have := HK1.out; first | omega | exact Nat.le_refl _⟩, ⟨by repeat (first | (with_reducible first | exact HB.out | apply below_alloc | apply pw_below_drewN | apply below_drew1) | exact HB.out)⟩⟩
  case rest =>
    clear HC2
    try clear p1
    try clear q1
    try clear hx1
    try clear p2
    try clear c3
    try clear c3b0
    try clear c4
    try clear c4b0
    try clear c5
    try clear c6
    try clear p6
    try clear hx177_0
    try clear p177
    try clear p2
    try clear q177
    obtain ⟨kq, x3_1, rfl, HA, HJ1, HB⟩ := hcut
    cases kq with
    | zero => exact absurd HA.out (by simp [spec_gemFirst.j1])
    | succ kj1 =>
      have H := HA.out
      clear HA
      simp only [spec_gemFirst.j1] at H
      have H' := Aside0.mk H
      clear H
      go_wp2
      go_loopg [4] kj1 (fun kq v4 w' => ∃ (x4_2 : Int), v4 = .int .i64 x4_2 ∧ Aside0 (spec_gemFirst.l1 kq l0 x3_1 x4_2 = some r) ∧ Aside0 (kq ≤ kj1) ∧ Aside0 (Below w.heap.size w w'))
      case atStart => exact ⟨(x3_1), (by first | rfl | (simp; done) | (simp [*]; done) | (simp [bne_nil_]; done)), H', ⟨Nat.le_refl _⟩, ⟨by repeat (first | (with_reducible first | exact HB.out | apply below_alloc | apply pw_below_drewN | apply below_drew1) | exact HB.out)⟩⟩
      case round =>
        clear H'
        try clear p1
        try clear q1
        try clear hx1
        try clear p2
        try clear c3
        try clear c3b0
        try clear c4
        try clear c4b0
        try clear c5
        try clear c6
        try clear p6
        try clear hx177_0
        try clear p1
        try clear p177
        try clear p2
        try clear p6
        try clear q1
        try clear q177
        obtain ⟨x4_2, rfl, HA, HK2, HB⟩ := hrel
        cases gk with
        | zero => exact absurd HA.out (by simp [spec_gemFirst.l1])
        | succ k2 =>
          have H := HA.out
          clear HA
          simp only [spec_gemFirst.l1] at H
          by_cases c7 : x4_2 > 0
          · rw [if_pos c7] at H
            have c7b0 : decide (0 < x4_2) = true := decide_eq_true c7
            clear c7
            obtain ⟨ji8, hji8⟩ : ∃ j_ : Int, (wrap64 (x4_2 - 1)) = j_ := ⟨_, rfl⟩
            replace H : (if 0 ≤ (ji8) then (if (ji8) < (l0.length : Int) then (if (rdOf ByteArray.empty l0 (ji8)).toList = ([48] : List UInt8) then (spec_gemFirst.l1 k2 l0 x3_1 ji8) else (if 0 ≤ x4_2 then (if x4_2 ≤ (l0.length : Int) then (if ([] : List ByteArray).length + (l0.take (x4_2 : Int).toNat).length < 8796093022208 then ((some (([] : List ByteArray) ++ (l0.take (x4_2 : Int).toNat) : List ByteArray)).bind fun y181 => (if 0 ≤ x3_1 then (if x3_1 ≤ (l0.length : Int) then (if y181.length + (l0.drop (x3_1 : Int).toNat).length < 8796093022208 then (some (y181 ++ (l0.drop (x3_1 : Int).toNat))) else (none)) else (none)) else (none))) else (none)) else (none)) else (none))) else (none)) else (none)) = some r := by first | (rw [hji8] at H; exact H) | (simp only [hji8] at H ⊢; exact H)
            have hji8w : (IntKind.i64.wrap (x4_2 - 1)) = ji8 := (i64_w _).trans hji8
            by_cases c9 : 0 ≤ (ji8)
            · rw [if_pos c9] at H
              have c9b0 : decide (0 ≤ (ji8)) = true := decide_eq_true c9
              clear c9
              by_cases c10 : (ji8) < (l0.length : Int)
              · rw [if_pos c10] at H
                have c10b0 : decide ((ji8) < (l0.length : Int)) = true := decide_eq_true c10
                clear c10
                by_cases c11 : (rdOf ByteArray.empty l0 (ji8)).toList = ([48] : List UInt8)
                · rw [if_pos c11] at H
                  have c11b0 : ((rdOf ByteArray.empty l0 (ji8)).toList == ([48] : List UInt8)) = true := beq_iff_eq.mpr c11
                  have c11b1 : ((rdOf ByteArray.empty l0 (ji8)).toList != ([48] : List UInt8)) = false := bne_eq_false_iff_eq.mpr c11
                  clear c11
                  have H' := Aside0.mk H
                  clear H
                  have p179 : 0 ≤ ((ji8) : Int) := of_decide_eq_true (by first | (with_reducible assumption) | assumption)
                  have q179 : (ji8) < (l0.length : Int) := of_decide_eq_true (by first | (with_reducible assumption) | assumption)
                  obtain ⟨ad179, e179, hx179_0⟩ := Kd.at_string HR0.out (ji8) p179 q179
                  cases e179
                  replace hx179_0 := (HB.out.cell (World.block_lt_of_cell? w _ hx179_0)).trans hx179_0
                  replace p179 := eq_true p179
                  replace q179 := eq_true q179
                  go_wp2
                  go_roundg k2
                  case measure => have := HJ1.out; have := HK2.out; omega
                  case rel => exact ⟨(ji8), (by first | rfl | (simp; done) | (simp only [← hji8] <;> (first | rfl | simp)) | (simp [*]; done)), H', ⟨by have := HJ1.out; have := HK2.out; omega⟩, ⟨by repeat (first | (with_reducible first | exact HB.out | apply below_alloc | apply pw_below_drewN | apply below_drew1) | exact HB.out)⟩⟩
                · rw [if_neg c11] at H
                  have c11b0 : ((rdOf ByteArray.empty l0 (ji8)).toList == ([48] : List UInt8)) = false := beq_eq_false_iff_ne.mpr c11
                  have c11b1 : ((rdOf ByteArray.empty l0 (ji8)).toList != ([48] : List UInt8)) = true := bne_iff_ne.mpr c11
                  by_cases c12 : 0 ≤ x4_2
                  · rw [if_pos c12] at H
                    have c12b0 := eq_true c12
                    have c12b1 : decide (0 ≤ x4_2) = true := decide_eq_true c12
                    clear c12
                    by_cases c13 : x4_2 ≤ (l0.length : Int)
                    · rw [if_pos c13] at H
                      have c13b0 := eq_true c13
                      have c13b1 : decide (x4_2 ≤ (l0.length : Int)) = true := decide_eq_true c13
                      clear c13
                      by_cases c14 : ([] : List ByteArray).length + (l0.take (x4_2 : Int).toNat).length < 8796093022208
                      · rw [if_pos c14] at H
                        have LMc14 := Aside0.mk c14
                        clear c14
                        obtain ⟨y181, hy181⟩ : ∃ y_ : List ByteArray, y_ = (([] : List ByteArray) ++ (l0.take (x4_2 : Int).toNat)) := ⟨_, rfl⟩
                        replace H : (if 0 ≤ x3_1 then (if x3_1 ≤ (l0.length : Int) then (if y181.length + (l0.drop (x3_1 : Int).toNat).length < 8796093022208 then (some (y181 ++ (l0.drop (x3_1 : Int).toNat))) else (none)) else (none)) else (none)) = some r := by first | (rw [hy181]; with_reducible exact H) | (have H2_ := (Option.bind_some _ _).symm.trans H; rw [hy181]; with_reducible exact H2_) | (have H2_ := (Option.bind_some _ _).symm.trans H; with_reducible exact H2_) | with_reducible exact H | (rw [hy181]; exact H) | exact H
                        have Ny181 := Aside0.mk hy181
                        clear hy181
                        by_cases c15 : 0 ≤ x3_1
                        · rw [if_pos c15] at H
                          have c15b0 := eq_true c15
                          have c15b1 : decide (0 ≤ x3_1) = true := decide_eq_true c15
                          clear c15
                          by_cases c16 : x3_1 ≤ (l0.length : Int)
                          · rw [if_pos c16] at H
                            have c16b0 := eq_true c16
                            have c16b1 : decide (x3_1 ≤ (l0.length : Int)) = true := decide_eq_true c16
                            clear c16
                            by_cases c17 : y181.length + (l0.drop (x3_1 : Int).toNat).length < 8796093022208
                            · rw [if_pos c17] at H
                              have LMc17 := Aside0.mk c17
                              clear c17
                              obtain ⟨y185, hy185⟩ : ∃ y_ : List ByteArray, y_ = (y181 ++ (l0.drop (x3_1 : Int).toNat)) := ⟨_, rfl⟩
                              replace H : (some y185) = some r := by first | (rw [hy185]; with_reducible exact H) | (have H2_ := (Option.bind_some _ _).symm.trans H; rw [hy185]; with_reducible exact H2_) | (have H2_ := (Option.bind_some _ _).symm.trans H; with_reducible exact H2_) | with_reducible exact H | (rw [hy185]; exact H) | exact H
                              have Ny185 := Aside0.mk hy185
                              clear hy185
                              obtain rfl := Option.some.inj H
                              have p179 : 0 ≤ ((ji8) : Int) := of_decide_eq_true (by first | (with_reducible assumption) | assumption)
                              have q179 : (ji8) < (l0.length : Int) := of_decide_eq_true (by first | (with_reducible assumption) | assumption)
                              obtain ⟨ad179, e179, hx179_0⟩ := Kd.at_string HR0.out (ji8) p179 q179
                              cases e179
                              replace hx179_0 := (HB.out.cell (World.block_lt_of_cell? w _ hx179_0)).trans hx179_0
                              replace p179 := eq_true p179
                              replace q179 := eq_true q179
                              try go_wp2
                              have n0_ := Aside0.mk (below_drew1 HB.out)
                              clear HB
                              have HB := n0_
                              clear n0_
                              obtain ⟨i019, hi019, _, hsz19, _⟩ := info_parts info9
                              obtain ⟨hcut19, hA19, hC19⟩ := print_take_of (P := Tryd.prog) Value.string (⟨#[]⟩ : ByteArray) 28 9 .i64 Tryd.underlying28 hi019 hsz19 (some ad179) c0 l0 x4_2 (of_decide_eq_true (by first | (with_reducible assumption) | assumption)) (of_decide_eq_true (by first | (with_reducible assumption) | assumption)) HC0.out
                              have HR180 := Aside0.mk (Kd.C_of_reads (h1 := fun _ => rfl) (hA19 _ (Kd.reads_of_C HR0.out)))
                              have HC180 := Aside0.mk hC19
                              clear hA19 hC19 hi019 hsz19
                              obtain ⟨i020, hi020, _, hsz20, _⟩ := info_parts info9
                              obtain ⟨A20, hcut20, hA20, hC20⟩ := print_drop_of (P := Tryd.prog) Value.string (⟨#[]⟩ : ByteArray) 28 9 .i64 Tryd.underlying28 hi020 hsz20 (some ad179) c0 l0 x3_1 (of_decide_eq_true (by first | (with_reducible assumption) | assumption)) (of_decide_eq_true (by first | (with_reducible assumption) | assumption)) HC0.out
                              have HR184 := Aside0.mk (Kd.C_of_reads (h1 := fun _ => rfl) (hA20 _ (Kd.reads_of_C HR0.out)))
                              have HC184 := Aside0.mk hC20
                              clear hA20 hC20 hi020 hsz20
                              refine start_ (n := 9) (S := fun w' => True) (ds := []) #[false, false, false, false, false, false, false, false, false] (by kernel_rfl) rfl rfl trivial (fun hHeld => ?_); refine with_tabW spec_gemFirst.tab7 spec_gemFirst.bits7 (fun HT_ HW_ => ?_)
                              generalize wr.drew = w18 at HB HR180 HR184 hHeld ⊢
                              refine pure_ (i := 0) (N := some 31) (v := ?_) (a' := ?_) #[true, false, false, false, false, false, false, false, false] rfl rfl (any_of HT_.out (by kernel_rfl)) (fun _ _ _ h => h) (Or.inl ⟨by rfl, ?_⟩) ?_ ?_
                              rotate_left
                              · intro w'
                                go_simp
                                with_reducible rfl
                              rotate_left
                              · simp only [Act.put, List.setIfInBounds_toArray, List.set_cons_zero, List.set_cons_succ, i64_w, i32_w]
                                rfl
                              refine pure_ (i := 1) (N := some 32) (v := ?_) (a' := ?_) #[true, true, false, false, false, false, false, false, false] rfl rfl (any_of HT_.out (by kernel_rfl)) (fun _ _ _ h => h) (Or.inl ⟨by rfl, ?_⟩) ?_ ?_
                              rotate_left
                              · intro w'
                                go_simp
                                with_reducible rfl
                              rotate_left
                              · simp only [Act.put, List.setIfInBounds_toArray, List.set_cons_zero, List.set_cons_succ, i64_w, i32_w]
                                rfl
                              refine pure_ (i := 2) (N := some 33) (v := ?_) (a' := ?_) #[true, true, true, false, false, false, false, false, false] rfl rfl (any_of HT_.out (by kernel_rfl)) (fun _ _ _ h => h) (Or.inl ⟨by rfl, ?_⟩) ?_ ?_
                              rotate_left
                              · intro w'
                                go_simp
                                with_reducible rfl
                              rotate_left
                              · simp only [Act.put, List.setIfInBounds_toArray, List.set_cons_zero, List.set_cons_succ, i64_w, i32_w]
                                rfl
                              refine pure_ (i := 4) (N := some 35) (v := ?_) (a' := ?_) #[true, true, true, false, true, false, false, false, false] rfl rfl (any_of HT_.out (by kernel_rfl)) (fun _ _ _ h => h) (Or.inl ⟨by rfl, ?_⟩) ?_ ?_
                              rotate_left
                              · intro w'
                                go_simp
                                with_reducible rfl
                              rotate_left
                              · simp only [Act.put, List.setIfInBounds_toArray, List.set_cons_zero, List.set_cons_succ, i64_w, i32_w]
                                rfl
                              refine pure_ (i := 5) (N := some 36) (v := ?_) (a' := ?_) #[true, true, true, false, true, true, false, false, false] rfl rfl (any_of HT_.out (by kernel_rfl)) (fun _ _ _ h => h) (Or.inl ⟨by rfl, ?_⟩) ?_ ?_
                              rotate_left
                              · intro w'
                                go_simp
                                with_reducible rfl
                              rotate_left
                              · simp only [Act.put, List.setIfInBounds_toArray, List.set_cons_zero, List.set_cons_succ, i64_w, i32_w]
                                rfl
                              refine pure_ (i := 6) (N := some 37) (v := ?_) (a' := ?_) #[true, true, true, false, true, true, true, false, false] rfl rfl (any_of HT_.out (by kernel_rfl)) (fun _ _ _ h => h) (Or.inl ⟨by rfl, ?_⟩) ?_ ?_
                              rotate_left
                              · intro w'
                                go_simp
                                with_reducible rfl
                              rotate_left
                              · simp only [Act.put, List.setIfInBounds_toArray, List.set_cons_zero, List.set_cons_succ, i64_w, i32_w]
                                rfl
                              refine one_ (i := 3) (N := some 34) #[true, true, true, true, true, true, true, false, false] rfl rfl (one_of HT_.out (by kernel_rfl)) (by decide) (fun K hK => ?_)
                              refine Kd.R_append_rows_step Kd.string (w0 := w) w.heap.size rfl (.const (.slice none 0 0)) (.tmp 33) 28 9 (.string ⟨#[]⟩) 16 rfl Tryd.underlying28 info9 rfl (by decide) (by omega) (.slice none 0 0) ([] : List ByteArray) (l0.take (x4_2 : Int).toNat) _ _ _ (fun _ => True) (fun _ => False) rfl rfl ?aO ?aR (fun _ _ h => h) (fun _ h => h.elim) ?aF ?aB ?aS ?aL ?_
                              (case aR => first | (refine Eq.subst (motive := fun z => ReadsRow _ _ _ _ z _) (show (l0.take (x4_2 : Int).toNat).length = x4_2.toNat from (by rw [List.length_take]; have h_ : (x4_2 : Int) ≤ (l0.length : Int) := of_decide_eq_true (by first | (with_reducible assumption) | assumption); omega)) ?_; repeat (first | exact (Kd.C_below HR180.out HB.out) | (with_reducible refine Kd.C_alloc ?_ _) | (with_reducible refine Kd.C_drewN ?_ _) | (with_reducible refine Kd.C_drew ?_))) | (repeat (first | exact (Kd.C_below HR180.out HB.out) | (with_reducible refine Kd.C_alloc ?_ _) | (with_reducible refine Kd.C_drewN ?_ _) | (with_reducible refine Kd.C_drew ?_))))
                              (case aB => exact (by repeat (first | (with_reducible first | exact HB.out | apply below_alloc | apply pw_below_drewN | apply below_drew1) | exact HB.out)))
                              (case aF => exact (fun _ _ => trivial))
                              (case aO => exact ((Kd.R_nil _ _ _ _ (fun _ => True))))
                              (case aS => exact (below_size (by repeat (first | (with_reducible first | exact HB.out | apply below_alloc | apply pw_below_drewN | apply below_drew1) | exact HB.out))))
                              (case aL => have := LMc14.out; have hlx_ := (show (l0.take (x4_2 : Int).toNat).length = x4_2.toNat from (by rw [List.length_take]; have h_ : (x4_2 : Int) ≤ (l0.length : Int) := of_decide_eq_true (by first | (with_reducible assumption) | assumption); omega)); omega)
                              intro v182 w21 ho hb hg hat
                              rw [← Ny181.out] at ho
                              have n0_ := Aside0.mk (hb)
                              have n1_ := Aside0.mk (ho)
                              clear HB
                              have HB := n0_
                              have HO183 := n1_
                              clear n0_ n1_
                              clear ho hb hg hat
                              refine hK.out _ _ trivial (fun hHeld => ?_)
                              clear hK K
                              refine norm_ (a' := ?_) ?_ ?_
                              rotate_left
                              · show Act.put _ (some 34) _ = _
                                simp only [Act.put, List.setIfInBounds_toArray, List.set_cons_zero, List.set_cons_succ, i64_w, i32_w]
                                rfl
                              refine one_ (i := 7) (N := some 38) #[true, true, true, true, true, true, true, true, false] rfl rfl (one_of HT_.out (by kernel_rfl)) (by decide) (fun K hK => ?_)
                              refine Kd.R_append_rows_step Kd.string (w0 := w) w.heap.size (by rfl) (.tmp 34) (.tmp 37) 28 9 (.string ⟨#[]⟩) 16 rfl Tryd.underlying28 info9 rfl (by decide) (by omega) v182 y181 (l0.drop (x3_1 : Int).toNat) _ _ _ (fun _ => True) (fun _ => False) rfl rfl ?aO ?aR (fun _ _ h => h) (fun _ h => h.elim) ?aF ?aB ?aS ?aL ?_
                              (case aR => first | (rw [← show (l0.drop (x3_1 : Int).toNat).length = (l0.length - x3_1.toNat) from List.length_drop]; repeat (first | exact (Kd.C_below HR184.out HB.out) | (with_reducible refine Kd.C_alloc ?_ _) | (with_reducible refine Kd.C_drewN ?_ _) | (with_reducible refine Kd.C_drew ?_))) | (repeat (first | exact (Kd.C_below HR184.out HB.out) | (with_reducible refine Kd.C_alloc ?_ _) | (with_reducible refine Kd.C_drewN ?_ _) | (with_reducible refine Kd.C_drew ?_))))
                              (case aB => exact (by repeat (first | (with_reducible first | exact HB.out | apply below_alloc | apply pw_below_drewN | apply below_drew1) | exact HB.out)))
                              (case aF => exact (fun _ _ => trivial))
                              (case aO => exact (by (with_reducible repeat (first | apply Kd.R_alloc | apply Kd.R_drewN | apply Kd.R_drew)); exact HO183.out))
                              (case aS => exact (below_size (by repeat (first | (with_reducible first | exact HB.out | apply below_alloc | apply pw_below_drewN | apply below_drew1) | exact HB.out))))
                              (case aL => have := LMc17.out; have hlx_ := (show (l0.drop (x3_1 : Int).toNat).length = (l0.length - x3_1.toNat) from List.length_drop); omega)
                              intro v186 w22 ho hb hg hat
                              rw [← Ny185.out] at ho
                              have n0_ := Aside0.mk (hb)
                              have n1_ := Aside0.mk (ho)
                              clear HB
                              clear HO183
                              have HB := n0_
                              have HO187 := n1_
                              clear n0_ n1_
                              clear ho hb hg hat
                              refine hK.out _ _ trivial (fun hHeld => ?_)
                              clear hK K
                              refine norm_ (a' := ?_) ?_ ?_
                              rotate_left
                              · show Act.put _ (some 38) _ = _
                                simp only [Act.put, List.setIfInBounds_toArray, List.set_cons_zero, List.set_cons_succ, i64_w, i32_w]
                                rfl
                              refine pure_ (i := 8) (N := some 2) (v := ?_) (a' := ?_) #[true, true, true, true, true, true, true, true, true] rfl rfl (any_of HT_.out (by kernel_rfl)) (fun _ _ _ h => h) (Or.inl ⟨by rfl, ?_⟩) ?_ ?_
                              rotate_left
                              · intro w'
                                go_simp
                                with_reducible rfl
                              rotate_left
                              · simp only [Act.put, List.setIfInBounds_toArray, List.set_cons_zero, List.set_cons_succ, i64_w, i32_w]
                                rfl
                              refine done_ (done_of HT_.out (by kernel_rfl)) ?_
                              try go_wp2
                              go_ret
                              exact ⟨_, by first | rfl | (simp [errW_none, errW_some] <;> rfl) | (simp only [← hji8]; first | rfl | (simp [errW_none, errW_some] <;> rfl)) | (simp [*, errW_none, errW_some] <;> rfl) | (simp [bne_nil_]; done), by (with_reducible repeat (first | apply Kd.R_alloc | apply Kd.R_drewN | apply Kd.R_drew)); exact HO187.out, by repeat (first | (with_reducible first | exact HB.out | apply below_alloc | apply pw_below_drewN | apply below_drew1) | exact HB.out)⟩
                            · rw [if_neg c17] at H
                              exact absurd H (by simp)
                          · rw [if_neg c16] at H
                            exact absurd H (by simp)
                        · rw [if_neg c15] at H
                          exact absurd H (by simp)
                      · rw [if_neg c14] at H
                        exact absurd H (by simp)
                    · rw [if_neg c13] at H
                      exact absurd H (by simp)
                  · rw [if_neg c12] at H
                    exact absurd H (by simp)
              · rw [if_neg c10] at H
                exact absurd H (by simp)
            · rw [if_neg c9] at H
              exact absurd H (by simp)
          · rw [if_neg c7] at H
            have c7b0 : decide (0 < x4_2) = false := decide_eq_false c7
            clear c7
            by_cases c23 : 0 ≤ x4_2
            · rw [if_pos c23] at H
              have c23b0 := eq_true c23
              have c23b1 : decide (0 ≤ x4_2) = true := decide_eq_true c23
              clear c23
              by_cases c24 : x4_2 ≤ (l0.length : Int)
              · rw [if_pos c24] at H
                have c24b0 := eq_true c24
                have c24b1 : decide (x4_2 ≤ (l0.length : Int)) = true := decide_eq_true c24
                clear c24
                by_cases c25 : ([] : List ByteArray).length + (l0.take (x4_2 : Int).toNat).length < 8796093022208
                · rw [if_pos c25] at H
                  have LMc25 := Aside0.mk c25
                  clear c25
                  obtain ⟨y189, hy189⟩ : ∃ y_ : List ByteArray, y_ = (([] : List ByteArray) ++ (l0.take (x4_2 : Int).toNat)) := ⟨_, rfl⟩
                  replace H : (if 0 ≤ x3_1 then (if x3_1 ≤ (l0.length : Int) then (if y189.length + (l0.drop (x3_1 : Int).toNat).length < 8796093022208 then (some (y189 ++ (l0.drop (x3_1 : Int).toNat))) else (none)) else (none)) else (none)) = some r := by first | (rw [hy189]; with_reducible exact H) | (have H2_ := (Option.bind_some _ _).symm.trans H; rw [hy189]; with_reducible exact H2_) | (have H2_ := (Option.bind_some _ _).symm.trans H; with_reducible exact H2_) | with_reducible exact H | (rw [hy189]; exact H) | exact H
                  have Ny189 := Aside0.mk hy189
                  clear hy189
                  by_cases c26 : 0 ≤ x3_1
                  · rw [if_pos c26] at H
                    have c26b0 := eq_true c26
                    have c26b1 : decide (0 ≤ x3_1) = true := decide_eq_true c26
                    clear c26
                    by_cases c27 : x3_1 ≤ (l0.length : Int)
                    · rw [if_pos c27] at H
                      have c27b0 := eq_true c27
                      have c27b1 : decide (x3_1 ≤ (l0.length : Int)) = true := decide_eq_true c27
                      clear c27
                      by_cases c28 : y189.length + (l0.drop (x3_1 : Int).toNat).length < 8796093022208
                      · rw [if_pos c28] at H
                        have LMc28 := Aside0.mk c28
                        clear c28
                        obtain ⟨y193, hy193⟩ : ∃ y_ : List ByteArray, y_ = (y189 ++ (l0.drop (x3_1 : Int).toNat)) := ⟨_, rfl⟩
                        replace H : (some y193) = some r := by first | (rw [hy193]; with_reducible exact H) | (have H2_ := (Option.bind_some _ _).symm.trans H; rw [hy193]; with_reducible exact H2_) | (have H2_ := (Option.bind_some _ _).symm.trans H; with_reducible exact H2_) | with_reducible exact H | (rw [hy193]; exact H) | exact H
                        have Ny193 := Aside0.mk hy193
                        clear hy193
                        obtain rfl := Option.some.inj H
                        try go_wp2
                        have n0_ := Aside0.mk (below_drew1 HB.out)
                        clear HB
                        have HB := n0_
                        clear n0_
                        obtain ⟨i030, hi030, _, hsz30, _⟩ := info_parts info9
                        obtain ⟨hcut30, hA30, hC30⟩ := print_take_of (P := Tryd.prog) Value.string (⟨#[]⟩ : ByteArray) 28 9 .i64 Tryd.underlying28 hi030 hsz30 A0 c0 l0 x4_2 (of_decide_eq_true (by first | (with_reducible assumption) | assumption)) (of_decide_eq_true (by first | (with_reducible assumption) | assumption)) HC0.out
                        have HR188 := Aside0.mk (Kd.C_of_reads (h1 := fun _ => rfl) (hA30 _ (Kd.reads_of_C HR0.out)))
                        have HC188 := Aside0.mk hC30
                        clear hA30 hC30 hi030 hsz30
                        obtain ⟨i031, hi031, _, hsz31, _⟩ := info_parts info9
                        obtain ⟨A31, hcut31, hA31, hC31⟩ := print_drop_of (P := Tryd.prog) Value.string (⟨#[]⟩ : ByteArray) 28 9 .i64 Tryd.underlying28 hi031 hsz31 A0 c0 l0 x3_1 (of_decide_eq_true (by first | (with_reducible assumption) | assumption)) (of_decide_eq_true (by first | (with_reducible assumption) | assumption)) HC0.out
                        have HR192 := Aside0.mk (Kd.C_of_reads (h1 := fun _ => rfl) (hA31 _ (Kd.reads_of_C HR0.out)))
                        have HC192 := Aside0.mk hC31
                        clear hA31 hC31 hi031 hsz31
                        refine start_ (n := 9) (S := fun w' => True) (ds := []) #[false, false, false, false, false, false, false, false, false] (by kernel_rfl) rfl rfl trivial (fun hHeld => ?_); refine with_tabW spec_gemFirst.tab7 spec_gemFirst.bits7 (fun HT_ HW_ => ?_)
                        generalize wr.drew = w29 at HB HR188 HR192 hHeld ⊢
                        refine pure_ (i := 0) (N := some 31) (v := ?_) (a' := ?_) #[true, false, false, false, false, false, false, false, false] rfl rfl (any_of HT_.out (by kernel_rfl)) (fun _ _ _ h => h) (Or.inl ⟨by rfl, ?_⟩) ?_ ?_
                        rotate_left
                        · intro w'
                          go_simp
                          with_reducible rfl
                        rotate_left
                        · simp only [Act.put, List.setIfInBounds_toArray, List.set_cons_zero, List.set_cons_succ, i64_w, i32_w]
                          rfl
                        refine pure_ (i := 1) (N := some 32) (v := ?_) (a' := ?_) #[true, true, false, false, false, false, false, false, false] rfl rfl (any_of HT_.out (by kernel_rfl)) (fun _ _ _ h => h) (Or.inl ⟨by rfl, ?_⟩) ?_ ?_
                        rotate_left
                        · intro w'
                          go_simp
                          with_reducible rfl
                        rotate_left
                        · simp only [Act.put, List.setIfInBounds_toArray, List.set_cons_zero, List.set_cons_succ, i64_w, i32_w]
                          rfl
                        refine pure_ (i := 2) (N := some 33) (v := ?_) (a' := ?_) #[true, true, true, false, false, false, false, false, false] rfl rfl (any_of HT_.out (by kernel_rfl)) (fun _ _ _ h => h) (Or.inl ⟨by rfl, ?_⟩) ?_ ?_
                        rotate_left
                        · intro w'
                          go_simp
                          with_reducible rfl
                        rotate_left
                        · simp only [Act.put, List.setIfInBounds_toArray, List.set_cons_zero, List.set_cons_succ, i64_w, i32_w]
                          rfl
                        refine pure_ (i := 4) (N := some 35) (v := ?_) (a' := ?_) #[true, true, true, false, true, false, false, false, false] rfl rfl (any_of HT_.out (by kernel_rfl)) (fun _ _ _ h => h) (Or.inl ⟨by rfl, ?_⟩) ?_ ?_
                        rotate_left
                        · intro w'
                          go_simp
                          with_reducible rfl
                        rotate_left
                        · simp only [Act.put, List.setIfInBounds_toArray, List.set_cons_zero, List.set_cons_succ, i64_w, i32_w]
                          rfl
                        refine pure_ (i := 5) (N := some 36) (v := ?_) (a' := ?_) #[true, true, true, false, true, true, false, false, false] rfl rfl (any_of HT_.out (by kernel_rfl)) (fun _ _ _ h => h) (Or.inl ⟨by rfl, ?_⟩) ?_ ?_
                        rotate_left
                        · intro w'
                          go_simp
                          with_reducible rfl
                        rotate_left
                        · simp only [Act.put, List.setIfInBounds_toArray, List.set_cons_zero, List.set_cons_succ, i64_w, i32_w]
                          rfl
                        refine pure_ (i := 6) (N := some 37) (v := ?_) (a' := ?_) #[true, true, true, false, true, true, true, false, false] rfl rfl (any_of HT_.out (by kernel_rfl)) (fun _ _ _ h => h) (Or.inl ⟨by rfl, ?_⟩) ?_ ?_
                        rotate_left
                        · intro w'
                          go_simp
                          with_reducible rfl
                        rotate_left
                        · simp only [Act.put, List.setIfInBounds_toArray, List.set_cons_zero, List.set_cons_succ, i64_w, i32_w]
                          rfl
                        refine one_ (i := 3) (N := some 34) #[true, true, true, true, true, true, true, false, false] rfl rfl (one_of HT_.out (by kernel_rfl)) (by decide) (fun K hK => ?_)
                        refine Kd.R_append_rows_step Kd.string (w0 := w) w.heap.size rfl (.const (.slice none 0 0)) (.tmp 33) 28 9 (.string ⟨#[]⟩) 16 rfl Tryd.underlying28 info9 rfl (by decide) (by omega) (.slice none 0 0) ([] : List ByteArray) (l0.take (x4_2 : Int).toNat) _ _ _ (fun _ => True) (fun _ => False) rfl rfl ?aO ?aR (fun _ _ h => h) (fun _ h => h.elim) ?aF ?aB ?aS ?aL ?_
                        (case aR => first | (refine Eq.subst (motive := fun z => ReadsRow _ _ _ _ z _) (show (l0.take (x4_2 : Int).toNat).length = x4_2.toNat from (by rw [List.length_take]; have h_ : (x4_2 : Int) ≤ (l0.length : Int) := of_decide_eq_true (by first | (with_reducible assumption) | assumption); omega)) ?_; repeat (first | exact (Kd.C_below HR188.out HB.out) | (with_reducible refine Kd.C_alloc ?_ _) | (with_reducible refine Kd.C_drewN ?_ _) | (with_reducible refine Kd.C_drew ?_))) | (repeat (first | exact (Kd.C_below HR188.out HB.out) | (with_reducible refine Kd.C_alloc ?_ _) | (with_reducible refine Kd.C_drewN ?_ _) | (with_reducible refine Kd.C_drew ?_))))
                        (case aB => exact (by repeat (first | (with_reducible first | exact HB.out | apply below_alloc | apply pw_below_drewN | apply below_drew1) | exact HB.out)))
                        (case aF => exact (fun _ _ => trivial))
                        (case aO => exact ((Kd.R_nil _ _ _ _ (fun _ => True))))
                        (case aS => exact (below_size (by repeat (first | (with_reducible first | exact HB.out | apply below_alloc | apply pw_below_drewN | apply below_drew1) | exact HB.out))))
                        (case aL => have := LMc25.out; have hlx_ := (show (l0.take (x4_2 : Int).toNat).length = x4_2.toNat from (by rw [List.length_take]; have h_ : (x4_2 : Int) ≤ (l0.length : Int) := of_decide_eq_true (by first | (with_reducible assumption) | assumption); omega)); omega)
                        intro v190 w32 ho hb hg hat
                        rw [← Ny189.out] at ho
                        have n0_ := Aside0.mk (hb)
                        have n1_ := Aside0.mk (ho)
                        clear HB
                        have HB := n0_
                        have HO191 := n1_
                        clear n0_ n1_
                        clear ho hb hg hat
                        refine hK.out _ _ trivial (fun hHeld => ?_)
                        clear hK K
                        refine norm_ (a' := ?_) ?_ ?_
                        rotate_left
                        · show Act.put _ (some 34) _ = _
                          simp only [Act.put, List.setIfInBounds_toArray, List.set_cons_zero, List.set_cons_succ, i64_w, i32_w]
                          rfl
                        refine one_ (i := 7) (N := some 38) #[true, true, true, true, true, true, true, true, false] rfl rfl (one_of HT_.out (by kernel_rfl)) (by decide) (fun K hK => ?_)
                        refine Kd.R_append_rows_step Kd.string (w0 := w) w.heap.size (by rfl) (.tmp 34) (.tmp 37) 28 9 (.string ⟨#[]⟩) 16 rfl Tryd.underlying28 info9 rfl (by decide) (by omega) v190 y189 (l0.drop (x3_1 : Int).toNat) _ _ _ (fun _ => True) (fun _ => False) rfl rfl ?aO ?aR (fun _ _ h => h) (fun _ h => h.elim) ?aF ?aB ?aS ?aL ?_
                        (case aR => first | (rw [← show (l0.drop (x3_1 : Int).toNat).length = (l0.length - x3_1.toNat) from List.length_drop]; repeat (first | exact (Kd.C_below HR192.out HB.out) | (with_reducible refine Kd.C_alloc ?_ _) | (with_reducible refine Kd.C_drewN ?_ _) | (with_reducible refine Kd.C_drew ?_))) | (repeat (first | exact (Kd.C_below HR192.out HB.out) | (with_reducible refine Kd.C_alloc ?_ _) | (with_reducible refine Kd.C_drewN ?_ _) | (with_reducible refine Kd.C_drew ?_))))
                        (case aB => exact (by repeat (first | (with_reducible first | exact HB.out | apply below_alloc | apply pw_below_drewN | apply below_drew1) | exact HB.out)))
                        (case aF => exact (fun _ _ => trivial))
                        (case aO => exact (by (with_reducible repeat (first | apply Kd.R_alloc | apply Kd.R_drewN | apply Kd.R_drew)); exact HO191.out))
                        (case aS => exact (below_size (by repeat (first | (with_reducible first | exact HB.out | apply below_alloc | apply pw_below_drewN | apply below_drew1) | exact HB.out))))
                        (case aL => have := LMc28.out; have hlx_ := (show (l0.drop (x3_1 : Int).toNat).length = (l0.length - x3_1.toNat) from List.length_drop); omega)
                        intro v194 w33 ho hb hg hat
                        rw [← Ny193.out] at ho
                        have n0_ := Aside0.mk (hb)
                        have n1_ := Aside0.mk (ho)
                        clear HB
                        clear HO191
                        have HB := n0_
                        have HO195 := n1_
                        clear n0_ n1_
                        clear ho hb hg hat
                        refine hK.out _ _ trivial (fun hHeld => ?_)
                        clear hK K
                        refine norm_ (a' := ?_) ?_ ?_
                        rotate_left
                        · show Act.put _ (some 38) _ = _
                          simp only [Act.put, List.setIfInBounds_toArray, List.set_cons_zero, List.set_cons_succ, i64_w, i32_w]
                          rfl
                        refine pure_ (i := 8) (N := some 2) (v := ?_) (a' := ?_) #[true, true, true, true, true, true, true, true, true] rfl rfl (any_of HT_.out (by kernel_rfl)) (fun _ _ _ h => h) (Or.inl ⟨by rfl, ?_⟩) ?_ ?_
                        rotate_left
                        · intro w'
                          go_simp
                          with_reducible rfl
                        rotate_left
                        · simp only [Act.put, List.setIfInBounds_toArray, List.set_cons_zero, List.set_cons_succ, i64_w, i32_w]
                          rfl
                        refine done_ (done_of HT_.out (by kernel_rfl)) ?_
                        try go_wp2
                        go_ret
                        exact ⟨_, by first | rfl | (simp [errW_none, errW_some] <;> rfl) | (simp [*, errW_none, errW_some] <;> rfl) | (simp [bne_nil_]; done), by (with_reducible repeat (first | apply Kd.R_alloc | apply Kd.R_drewN | apply Kd.R_drew)); exact HO195.out, by repeat (first | (with_reducible first | exact HB.out | apply below_alloc | apply pw_below_drewN | apply below_drew1) | exact HB.out)⟩
                      · rw [if_neg c28] at H
                        exact absurd H (by simp)
                    · rw [if_neg c27] at H
                      exact absurd H (by simp)
                  · rw [if_neg c26] at H
                    exact absurd H (by simp)
                · rw [if_neg c25] at H
                  exact absurd H (by simp)
              · rw [if_neg c24] at H
                exact absurd H (by simp)
            · rw [if_neg c23] at H
              exact absurd H (by simp)

end Go.Proofs.YtfgechefinijbaaDoor.QG
