-- Written by a working copy of the kit's print program, turned at a few places by wip/tool/mkprint.py. Lean checks it.
import Derived.Test.YtchbfjjeodnocaaDoorQYx0
import Derived.Test.YtchbfjjeodnocaaDoorQYx2
import Derived.Test.YtchbfjjeodnocaaDoorQYx3
namespace Go.Proofs.YtchbfjjeodnocaaDoor.QY
open Go.RowKit Go.Proofs.YtchbfjjeodnocaaDoorW.PrintWords Go.Proofs.YtchbfjjeodnocaaDoorW.PrintLast Go.Proofs.YtchbfjjeodnocaaDoorW.PrintMore
attribute [local go_sem] max2_int min2_int max_two min_two max_three min_three max_four min_four   -- for this text's walks alone
set_option linter.unusedVariables false
set_option linter.unusedSimpArgs false

-- LEFT OUT: function 186

-- LEFT OUT: function 196

-- LEFT OUT: function 205

-- LEFT OUT: function 194

-- LEFT OUT: function 219

-- LEFT OUT: function 242

-- LEFT OUT: function 243

-- LEFT OUT: function 235

-- LEFT OUT: function 244

-- LEFT OUT: function 245

-- LEFT OUT: function 236

-- LEFT OUT: function 230

-- LEFT OUT: function 227

-- LEFT OUT: function 220

-- LEFT OUT: function 206

-- LEFT OUT: function 207

-- LEFT OUT: function 208

-- LEFT OUT: function 197

-- LEFT OUT: function 221

-- LEFT OUT: function 222

-- LEFT OUT: function 228

-- LEFT OUT: function 223

-- LEFT OUT: function 209

-- LEFT OUT: function 187

-- LEFT OUT: function 162

-- LEFT OUT: function 140

-- LEFT OUT: function 141

-- LEFT OUT: function 120

-- LEFT OUT: function 127

-- LEFT OUT: function 150

-- LEFT OUT: function 130

-- LEFT OUT: function 170

-- LEFT OUT: function 151

-- LEFT OUT: function 131

-- LEFT OUT: function 110

-- LEFT OUT: function 72

-- LEFT OUT: function 215

-- LEFT OUT: function 214

-- LEFT OUT: function 195

-- LEFT OUT: function 171

-- LEFT OUT: function 152

-- LEFT OUT: function 172

-- LEFT OUT: function 153

-- LEFT OUT: function 132

-- LEFT OUT: function 133

-- LEFT OUT: function 134

-- LEFT OUT: function 111

-- LEFT OUT: function 112

-- LEFT OUT: function 113

-- LEFT OUT: function 73

-- GIVEN: function 33 (impl_PyPILocal)

-- GIVEN: function 75 (spec_order)

/-! ### spec_orderInts: function 76 -/
def spec_orderInts.f (a0 : Int) (a1 : Int) : Option (Int) := if a0 < a1 then (some (-1)) else (if a0 > a1 then (some 1) else (some 0))
set_option maxHeartbeats 8000000 in
set_option maxRecDepth 100000 in
theorem spec_orderInts.calls (a0 : Int) (a1 : Int) (r : Int) (w : World) (h : spec_orderInts.f a0 a1 = some r) :
    Calls Tryd.prog 76 #[.int .i64 a0, .int .i64 a1] w fun e w' => e = .returned (.int .i64 r) ∧ Drawn0 w w' := by
  have H : (if a0 < a1 then (some (-1)) else (if a0 > a1 then (some 1) else (some 0))) = some r := h
  clear h
  by_cases c3 : a0 < a1
  · rw [if_pos c3] at H
    have c3b0 : decide (a0 < a1) = true := decide_eq_true c3
    clear c3
    obtain rfl := Option.some.inj H
    go_enter Tryd.func76, Tryd.ntmps76
    go_wp2
    go_ret
    exact ⟨by first | rfl | (simp; done) | (simp [*]; done) | (simp [bne_nil_]; done), by repeat (first | exact Drawn0.refl _ | apply Drawn0.step)⟩
  · rw [if_neg c3] at H
    have c3b0 : decide (a0 < a1) = false := decide_eq_false c3
    clear c3
    by_cases c4 : a0 > a1
    · rw [if_pos c4] at H
      have c4b0 : decide (a1 < a0) = true := decide_eq_true c4
      clear c4
      obtain rfl := Option.some.inj H
      go_enter Tryd.func76, Tryd.ntmps76
      go_wp2
      go_ret
      exact ⟨by first | rfl | (simp; done) | (simp [*]; done) | (simp [bne_nil_]; done), by repeat (first | exact Drawn0.refl _ | apply Drawn0.step)⟩
    · rw [if_neg c4] at H
      have c4b0 : decide (a1 < a0) = false := decide_eq_false c4
      clear c4
      obtain rfl := Option.some.inj H
      go_enter Tryd.func76, Tryd.ntmps76
      go_wp2
      go_ret
      exact ⟨by first | rfl | (simp; done) | (simp [*]; done) | (simp [bne_nil_]; done), by repeat (first | exact Drawn0.refl _ | apply Drawn0.step)⟩

/-! ### spec_orderNumbers: function 74 -/
mutual
def spec_orderNumbers.j1 : Nat → ByteArray → ByteArray → Option (Int)
  | 0, _, _ => none
  | k + 1, x0, x1 => spec_orderNumbers.l1 k x0 x1
def spec_orderNumbers.j3 : Nat → ByteArray → ByteArray → Option (Int)
  | 0, _, _ => none
  | k + 1, x0, x1 => if (x0.size : Int) = (x1.size : Int) then ((Giv.spec_order.f x0 x1).bind fun t129 => (some t129)) else ((spec_orderInts.f (x0.size : Int) (x1.size : Int)).bind fun t130 => (some t130))
def spec_orderNumbers.l1 : Nat → ByteArray → ByteArray → Option (Int)
  | 0, _, _ => none
  | k + 1, x0, x1 => if (x1.size : Int) > 0 then (if 0 < (x1.size : Int) then (if (bt x1 0) = 48 then (if 1 ≤ (x1.size : Int) then (spec_orderNumbers.l1 k x0 (x1.extract 1 x1.size)) else (none)) else (spec_orderNumbers.j3 k x0 x1)) else (none)) else (spec_orderNumbers.j3 k x0 x1)
def spec_orderNumbers.l0 : Nat → ByteArray → ByteArray → Option (Int)
  | 0, _, _ => none
  | k + 1, x0, x1 => if (x0.size : Int) > 0 then (if 0 < (x0.size : Int) then (if (bt x0 0) = 48 then (if 1 ≤ (x0.size : Int) then (spec_orderNumbers.l0 k (x0.extract 1 x0.size) x1) else (none)) else (spec_orderNumbers.j1 k x0 x1)) else (none)) else (spec_orderNumbers.j1 k x0 x1)
end
def spec_orderNumbers.f (k : Nat) (a0 : ByteArray) (a1 : ByteArray) : Option (Int) := spec_orderNumbers.l0 k a0 a1
theorem spec_orderNumbers.mono_l : ∀ k, (∀ y0 y1, LeO (spec_orderNumbers.j1 k y0 y1) (spec_orderNumbers.j1 (k + 1) y0 y1)) ∧ (∀ y0 y1, LeO (spec_orderNumbers.j3 k y0 y1) (spec_orderNumbers.j3 (k + 1) y0 y1)) ∧ (∀ y0 y1, LeO (spec_orderNumbers.l1 k y0 y1) (spec_orderNumbers.l1 (k + 1) y0 y1)) ∧ (∀ y0 y1, LeO (spec_orderNumbers.l0 k y0 y1) (spec_orderNumbers.l0 (k + 1) y0 y1))
  | 0 => ⟨fun _ _ r h => by simp [spec_orderNumbers.j1] at h, fun _ _ r h => by simp [spec_orderNumbers.j3] at h, fun _ _ r h => by simp [spec_orderNumbers.l1] at h, fun _ _ r h => by simp [spec_orderNumbers.l0] at h⟩
  | k + 1 => by
    obtain ⟨ih0, ih1, ih2, ih3⟩ := spec_orderNumbers.mono_l k
    refine ⟨?_, ?_, ?_, ?_⟩
    · intro y0 y1
      unfold spec_orderNumbers.j1
      repeat' first
      | (with_reducible exact ih0 _ _)
      | (with_reducible exact ih1 _ _)
      | (with_reducible exact ih2 _ _)
      | (with_reducible exact ih3 _ _)
      | (with_reducible exact LeO.refl _)
      | (with_reducible exact LeO.none _)
      | (with_reducible refine LeO.ite ?_ ?_)
      | (with_reducible refine LeO.bind ?_ (fun _ => ?_))
      | exact ih0 _ _
      | exact ih1 _ _
      | exact ih2 _ _
      | exact ih3 _ _
      | exact LeO.none _
      | refine LeO.ite ?_ ?_
      | refine LeO.bind ?_ (fun _ => ?_)
    · intro y0 y1
      unfold spec_orderNumbers.j3
      repeat' first
      | (with_reducible exact ih0 _ _)
      | (with_reducible exact ih1 _ _)
      | (with_reducible exact ih2 _ _)
      | (with_reducible exact ih3 _ _)
      | (with_reducible exact LeO.refl _)
      | (with_reducible exact LeO.none _)
      | (with_reducible refine LeO.ite ?_ ?_)
      | (with_reducible refine LeO.bind ?_ (fun _ => ?_))
      | exact ih0 _ _
      | exact ih1 _ _
      | exact ih2 _ _
      | exact ih3 _ _
      | exact LeO.none _
      | refine LeO.ite ?_ ?_
      | refine LeO.bind ?_ (fun _ => ?_)
    · intro y0 y1
      unfold spec_orderNumbers.l1
      repeat' first
      | (with_reducible exact ih0 _ _)
      | (with_reducible exact ih1 _ _)
      | (with_reducible exact ih2 _ _)
      | (with_reducible exact ih3 _ _)
      | (with_reducible exact LeO.refl _)
      | (with_reducible exact LeO.none _)
      | (with_reducible refine LeO.ite ?_ ?_)
      | (with_reducible refine LeO.bind ?_ (fun _ => ?_))
      | exact ih0 _ _
      | exact ih1 _ _
      | exact ih2 _ _
      | exact ih3 _ _
      | exact LeO.none _
      | refine LeO.ite ?_ ?_
      | refine LeO.bind ?_ (fun _ => ?_)
    · intro y0 y1
      unfold spec_orderNumbers.l0
      repeat' first
      | (with_reducible exact ih0 _ _)
      | (with_reducible exact ih1 _ _)
      | (with_reducible exact ih2 _ _)
      | (with_reducible exact ih3 _ _)
      | (with_reducible exact LeO.refl _)
      | (with_reducible exact LeO.none _)
      | (with_reducible refine LeO.ite ?_ ?_)
      | (with_reducible refine LeO.bind ?_ (fun _ => ?_))
      | exact ih0 _ _
      | exact ih1 _ _
      | exact ih2 _ _
      | exact ih3 _ _
      | exact LeO.none _
      | refine LeO.ite ?_ ?_
      | refine LeO.bind ?_ (fun _ => ?_)
theorem spec_orderNumbers.mono : ∀ a0 a1 k, LeO (spec_orderNumbers.f k a0 a1) (spec_orderNumbers.f (k + 1) a0 a1) := by
  intro a0 a1 k
  obtain ⟨ih0, ih1, ih2, ih3⟩ := spec_orderNumbers.mono_l k
  unfold spec_orderNumbers.f
  repeat' first
      | (with_reducible exact ih0 _ _)
      | (with_reducible exact ih1 _ _)
      | (with_reducible exact ih2 _ _)
      | (with_reducible exact ih3 _ _)
      | (with_reducible exact LeO.refl _)
      | (with_reducible exact LeO.none _)
      | (with_reducible refine LeO.ite ?_ ?_)
      | (with_reducible refine LeO.bind ?_ (fun _ => ?_))
      | exact ih0 _ _
      | exact ih1 _ _
      | exact ih2 _ _
      | exact ih3 _ _
      | exact LeO.none _
      | refine LeO.ite ?_ ?_
      | refine LeO.bind ?_ (fun _ => ?_)
set_option maxHeartbeats 8000000 in
set_option maxRecDepth 100000 in
theorem spec_orderNumbers.calls (k : Nat) (a0 : ByteArray) (a1 : ByteArray) (r : Int) (w : World) (h : spec_orderNumbers.f k a0 a1 = some r) :
    Calls Tryd.prog 74 #[.string a0, .string a1] w fun e w' => e = .returned (.int .i64 r) ∧ Drawn0 w w' := by
  have H : (spec_orderNumbers.l0 k a0 a1) = some r := h
  clear h
  have HC3 := Aside0.mk H
  clear H
  go_enter Tryd.func74, Tryd.ntmps74
  go_upto_block 0 with (fail)
  go_cut [0] (fun v0 wc => ∃ (kq : Nat) (x0_2 : ByteArray), v0 = .string x0_2 ∧ Aside0 (spec_orderNumbers.j1 kq x0_2 a1 = some r) ∧ Aside0 (kq ≤ k) ∧ Drawn0 w wc)
  case first =>
    have H := HC3.out
    clear HC3
    have H' := Aside0.mk H
    clear H
    go_wp2
    go_loopg [0] k (fun kq v0 w' => ∃ (x0_1 : ByteArray), v0 = .string x0_1 ∧ Aside0 (spec_orderNumbers.l0 kq x0_1 a1 = some r) ∧ Aside0 (kq ≤ k) ∧ Drawn0 w w')
    case atStart => exact ⟨(a0), (by first | rfl | (simp; done) | (simp [*]; done) | (simp [bne_nil_]; done)), H', ⟨Nat.le_refl _⟩, by repeat (first | exact Drawn0.refl _ | apply Drawn0.step)⟩
    case round =>
      clear H'
      try clear p2
      obtain ⟨x0_1, rfl, HA, HK1, ⟨m1, rfl⟩⟩ := hrel
      cases gk with
      | zero => exact absurd HA.out (by simp [spec_orderNumbers.l0])
      | succ k1 =>
        have H := HA.out
        clear HA
        simp only [spec_orderNumbers.l0] at H
        by_cases c4 : (x0_1.size : Int) > 0
        · rw [if_pos c4] at H
          have c4b0 : decide (0 < (x0_1.size : Int)) = true := decide_eq_true c4
          have c4b1 : decide (0 < x0_1.size) = true := decide_eq_true (by omega)
          clear c4
          (first | rw [c4b0] | (simp only [i64_w, i32_w]; rw [c4b0]) | skip)
          by_cases c5 : 0 < (x0_1.size : Int)
          · rw [if_pos c5] at H
            have c5b0 : decide (0 < (x0_1.size : Int)) = true := decide_eq_true c5
            have c5b1 : decide (0 < x0_1.size) = true := decide_eq_true (by omega)
            clear c5
            by_cases c7 : (bt x0_1 0) = 48
            · rw [if_pos c7] at H
              have c7b0 : ((bt x0_1 0) == 48) = true := beq_iff_eq.mpr c7
              have c7b1 : ((bt x0_1 0) != 48) = false := bne_eq_false_iff_eq.mpr c7
              clear c7
              by_cases c8 : 1 ≤ (x0_1.size : Int)
              · rw [if_pos c8] at H
                have c8b0 := eq_true c8
                have c8b1 : decide (1 ≤ (x0_1.size : Int)) = true := decide_eq_true c8
                clear c8
                have H' := Aside0.mk H
                clear H
                have p6 : 0 ≤ (0 : Int) := (by omega)
                have q6 : 0 < x0_1.size := (by have : (0 : Int) < (x0_1.size : Int) := of_decide_eq_true (by first | (with_reducible assumption) | assumption); omega)
                have hx6 : ∀ h : 0 < x0_1.size, ((x0_1[0]'h).toNat : Int) = bt x0_1 0 := bt_at x0_1 0
                clear p6
                have qi6 : (0 < (x0_1.size : Int)) = True := eq_true (of_decide_eq_true (by first | (with_reducible assumption) | assumption))
                replace q6 := eq_true q6
                go_wp2
                go_roundg k1
                case measure => have := HK1.out; omega
                case rel => exact ⟨(x0_1.extract 1 x0_1.size), (by first | rfl | (simp; done) | (simp [*]; done) | (simp [bne_nil_]; done)), H', ⟨by have := HK1.out; omega⟩, by repeat (first | exact Drawn0.refl _ | apply Drawn0.step)⟩
              · rw [if_neg c8] at H
                exact absurd H (by simp)
            · rw [if_neg c7] at H
              have c7b0 : ((bt x0_1 0) == 48) = false := beq_eq_false_iff_ne.mpr c7
              have c7b1 : ((bt x0_1 0) != 48) = true := bne_iff_ne.mpr c7
              have H' := Aside0.mk H
              clear H
              have p6 : 0 ≤ (0 : Int) := (by omega)
              have q6 : 0 < x0_1.size := (by have : (0 : Int) < (x0_1.size : Int) := of_decide_eq_true (by first | (with_reducible assumption) | assumption); omega)
              have hx6 : ∀ h : 0 < x0_1.size, ((x0_1[0]'h).toNat : Int) = bt x0_1 0 := bt_at x0_1 0
              clear p6
              have qi6 : (0 < (x0_1.size : Int)) = True := eq_true (of_decide_eq_true (by first | (with_reducible assumption) | assumption))
              replace q6 := eq_true q6
              go_wp2
              go_meet
              case rel => exact ⟨_, (x0_1), (by first | rfl | (simp; done) | (simp [*]; done) | (simp [bne_nil_]; done)), H', ⟨by have := HK1.out; first | omega | exact Nat.le_refl _⟩, by repeat (first | exact Drawn0.refl _ | apply Drawn0.step)⟩
          · rw [if_neg c5] at H
            exact absurd H (by simp)
        · rw [if_neg c4] at H
          have c4b0 : decide (0 < (x0_1.size : Int)) = false := decide_eq_false c4
          have c4b1 : decide (0 < x0_1.size) = false := decide_eq_false (by omega)
          clear c4
          (first | rw [c4b0] | (simp only [i64_w, i32_w]; rw [c4b0]) | skip)
          have H' := Aside0.mk H
          clear H
          go_wp2
          go_meet
          case rel => exact ⟨_, (x0_1), (by first | rfl | (simp; done) | (simp [*]; done) | (simp [bne_nil_]; done)), H', ⟨by have := HK1.out; first | omega | exact Nat.le_refl _⟩, by repeat (first | exact Drawn0.refl _ | apply Drawn0.step)⟩
  case rest =>
    clear HC3
    try clear p2
    try clear c4
    try clear c4b0
    try clear c4b1
    try clear c5
    try clear c5b0
    try clear c5b1
    try clear p6
    try clear q6
    try clear hx6
    try clear qi6
    try clear c7
    try clear c7b0
    try clear c7b1
    try clear c8
    try clear c8b0
    try clear c8b1
    try clear p2
    try clear p6
    try clear q6
    obtain ⟨kq, x0_2, rfl, HA, HJ2, ⟨mc2, rfl⟩⟩ := hcut
    cases kq with
    | zero => exact absurd HA.out (by simp [spec_orderNumbers.j1])
    | succ kj2 =>
      have H := HA.out
      clear HA
      simp only [spec_orderNumbers.j1] at H
      have HC9 := Aside0.mk H
      clear H
      go_upto_block 2 with (fail)
      go_cut [1] (fun v1 wc => ∃ (kq : Nat) (x1_8 : ByteArray), v1 = .string x1_8 ∧ Aside0 (spec_orderNumbers.j3 kq x0_2 x1_8 = some r) ∧ Aside0 (kq ≤ kj2) ∧ Drawn0 w wc)
      case first =>
        have H := HC9.out
        clear HC9
        have H' := Aside0.mk H
        clear H
        go_wp2
        go_loopg [1] kj2 (fun kq v1 w' => ∃ (x1_2 : ByteArray), v1 = .string x1_2 ∧ Aside0 (spec_orderNumbers.l1 kq x0_2 x1_2 = some r) ∧ Aside0 (kq ≤ kj2) ∧ Drawn0 w w')
        case atStart => exact ⟨(a1), (by first | rfl | (simp; done) | (simp [*]; done) | (simp [bne_nil_]; done)), H', ⟨Nat.le_refl _⟩, by repeat (first | exact Drawn0.refl _ | apply Drawn0.step)⟩
        case round =>
          clear H'
          try clear c2
          try clear p2
          try clear c4
          try clear c4b0
          try clear c4b1
          try clear c5
          try clear c5b0
          try clear c5b1
          try clear p6
          try clear q6
          try clear hx6
          try clear qi6
          try clear c7
          try clear c7b0
          try clear c7b1
          try clear c8
          try clear c8b0
          try clear c8b1
          try clear p2
          try clear p6
          try clear q6
          obtain ⟨x1_2, rfl, HA, HK2, ⟨m2, rfl⟩⟩ := hrel
          cases gk with
          | zero => exact absurd HA.out (by simp [spec_orderNumbers.l1])
          | succ k2 =>
            have H := HA.out
            clear HA
            simp only [spec_orderNumbers.l1] at H
            by_cases c10 : (x1_2.size : Int) > 0
            · rw [if_pos c10] at H
              have c10b0 : decide (0 < (x1_2.size : Int)) = true := decide_eq_true c10
              have c10b1 : decide (0 < x1_2.size) = true := decide_eq_true (by omega)
              clear c10
              (first | rw [c10b0] | (simp only [i64_w, i32_w]; rw [c10b0]) | skip)
              by_cases c11 : 0 < (x1_2.size : Int)
              · rw [if_pos c11] at H
                have c11b0 : decide (0 < (x1_2.size : Int)) = true := decide_eq_true c11
                have c11b1 : decide (0 < x1_2.size) = true := decide_eq_true (by omega)
                clear c11
                by_cases c13 : (bt x1_2 0) = 48
                · rw [if_pos c13] at H
                  have c13b0 : ((bt x1_2 0) == 48) = true := beq_iff_eq.mpr c13
                  have c13b1 : ((bt x1_2 0) != 48) = false := bne_eq_false_iff_eq.mpr c13
                  clear c13
                  by_cases c14 : 1 ≤ (x1_2.size : Int)
                  · rw [if_pos c14] at H
                    have c14b0 := eq_true c14
                    have c14b1 : decide (1 ≤ (x1_2.size : Int)) = true := decide_eq_true c14
                    clear c14
                    have H' := Aside0.mk H
                    clear H
                    have p12 : 0 ≤ (0 : Int) := (by omega)
                    have q12 : 0 < x1_2.size := (by have : (0 : Int) < (x1_2.size : Int) := of_decide_eq_true (by first | (with_reducible assumption) | assumption); omega)
                    have hx12 : ∀ h : 0 < x1_2.size, ((x1_2[0]'h).toNat : Int) = bt x1_2 0 := bt_at x1_2 0
                    clear p12
                    have qi12 : (0 < (x1_2.size : Int)) = True := eq_true (of_decide_eq_true (by first | (with_reducible assumption) | assumption))
                    replace q12 := eq_true q12
                    go_wp2
                    go_roundg k2
                    case measure => have := HJ2.out; have := HK2.out; omega
                    case rel => exact ⟨(x1_2.extract 1 x1_2.size), (by first | rfl | (simp; done) | (simp [*]; done) | (simp [bne_nil_]; done)), H', ⟨by have := HJ2.out; have := HK2.out; omega⟩, by repeat (first | exact Drawn0.refl _ | apply Drawn0.step)⟩
                  · rw [if_neg c14] at H
                    exact absurd H (by simp)
                · rw [if_neg c13] at H
                  have c13b0 : ((bt x1_2 0) == 48) = false := beq_eq_false_iff_ne.mpr c13
                  have c13b1 : ((bt x1_2 0) != 48) = true := bne_iff_ne.mpr c13
                  have H' := Aside0.mk H
                  clear H
                  have p12 : 0 ≤ (0 : Int) := (by omega)
                  have q12 : 0 < x1_2.size := (by have : (0 : Int) < (x1_2.size : Int) := of_decide_eq_true (by first | (with_reducible assumption) | assumption); omega)
                  have hx12 : ∀ h : 0 < x1_2.size, ((x1_2[0]'h).toNat : Int) = bt x1_2 0 := bt_at x1_2 0
                  clear p12
                  have qi12 : (0 < (x1_2.size : Int)) = True := eq_true (of_decide_eq_true (by first | (with_reducible assumption) | assumption))
                  replace q12 := eq_true q12
                  go_wp2
                  go_meet
                  case rel => exact ⟨_, (x1_2), (by first | rfl | (simp; done) | (simp [*]; done) | (simp [bne_nil_]; done)), H', ⟨by have := HJ2.out; have := HK2.out; first | omega | exact Nat.le_refl _⟩, by repeat (first | exact Drawn0.refl _ | apply Drawn0.step)⟩
              · rw [if_neg c11] at H
                exact absurd H (by simp)
            · rw [if_neg c10] at H
              have c10b0 : decide (0 < (x1_2.size : Int)) = false := decide_eq_false c10
              have c10b1 : decide (0 < x1_2.size) = false := decide_eq_false (by omega)
              clear c10
              (first | rw [c10b0] | (simp only [i64_w, i32_w]; rw [c10b0]) | skip)
              have H' := Aside0.mk H
              clear H
              go_wp2
              go_meet
              case rel => exact ⟨_, (x1_2), (by first | rfl | (simp; done) | (simp [*]; done) | (simp [bne_nil_]; done)), H', ⟨by have := HJ2.out; have := HK2.out; first | omega | exact Nat.le_refl _⟩, by repeat (first | exact Drawn0.refl _ | apply Drawn0.step)⟩
      case rest =>
        clear HC9
        try clear c1
        try clear p1
        try clear q1
        try clear hx1
        try clear qi1
        try clear c2
        try clear p2
        try clear c4
        try clear c4b0
        try clear c4b1
        try clear c5
        try clear c5b0
        try clear c5b1
        try clear p6
        try clear q6
        try clear hx6
        try clear qi6
        try clear c7
        try clear c7b0
        try clear c7b1
        try clear c8
        try clear c8b0
        try clear c8b1
        try clear c10
        try clear c10b0
        try clear c10b1
        try clear c11
        try clear c11b0
        try clear c11b1
        try clear p12
        try clear q12
        try clear hx12
        try clear qi12
        try clear c13
        try clear c13b0
        try clear c13b1
        try clear c14
        try clear c14b0
        try clear c14b1
        try clear p12
        try clear p2
        try clear p6
        try clear q12
        try clear q6
        obtain ⟨kq, x1_8, rfl, HA, HJ8, ⟨mc8, rfl⟩⟩ := hcut
        cases kq with
        | zero => exact absurd HA.out (by simp [spec_orderNumbers.j3])
        | succ kj8 =>
          have H := HA.out
          clear HA
          simp only [spec_orderNumbers.j3] at H
          by_cases c15 : (x0_2.size : Int) = (x1_8.size : Int)
          · rw [if_pos c15] at H
            have c15b0 : ((x0_2.size : Int) == (x1_8.size : Int)) = true := beq_iff_eq.mpr c15
            have c15b1 : ((x0_2.size : Int) != (x1_8.size : Int)) = false := bne_eq_false_iff_eq.mpr c15
            have c15b2 : (x0_2.size == x1_8.size) = true := by first | simpa using c15 | (simp at c15 ⊢; omega)
            clear c15
            replace H := Option.bind_eq_some_iff.mp H
            obtain ⟨t129, A160, H⟩ := H
            replace H : (some t129) = some r := H
            have A16 := Aside0.mk A160
            clear A160
            obtain rfl := Option.some.inj H
            go_wp2_with (first | ((with_reducible refine gate_callee (f := 75) rfl ?_); refine goesL_ (some 37) rfl rfl Tryd.func75 (by kernel_rfl) rfl #[.string x0_2, .string x1_8] rfl (by (try simp only [List.map_toArray, List.map_cons, List.map_nil]); first | done | rfl | (simp only [List.length_drop, List.length_take]; rfl)) ?_; (with_reducible refine (Giv.spec_order.calls x0_2 x1_8 t129 _ A16.out).mono ?_); rintro e w' ⟨rfl, ⟨nd, rfl⟩⟩; refine ⟨_, rfl, ?_⟩))
            go_ret
            exact ⟨by first | rfl | (simp; done) | (simp [*]; done) | (simp [bne_nil_]; done), by repeat (first | exact Drawn0.refl _ | apply Drawn0.step)⟩
          · rw [if_neg c15] at H
            have c15b0 : ((x0_2.size : Int) == (x1_8.size : Int)) = false := beq_eq_false_iff_ne.mpr c15
            have c15b1 : ((x0_2.size : Int) != (x1_8.size : Int)) = true := bne_iff_ne.mpr c15
            have c15b2 : (x0_2.size == x1_8.size) = false := by first | simpa using c15 | (simp at c15 ⊢; omega)
            replace H := Option.bind_eq_some_iff.mp H
            obtain ⟨t130, A170, H⟩ := H
            replace H : (some t130) = some r := H
            have A17 := Aside0.mk A170
            clear A170
            obtain rfl := Option.some.inj H
            go_wp2_with (first | ((with_reducible refine gate_callee (f := 76) rfl ?_); refine goesL_ (some 34) rfl rfl Tryd.func76 (by kernel_rfl) rfl #[.int .i64 (x0_2.size : Int), .int .i64 (x1_8.size : Int)] rfl (by (try simp only [List.map_toArray, List.map_cons, List.map_nil]); first | done | rfl | (simp only [List.length_drop, List.length_take]; rfl)) ?_; (with_reducible refine (spec_orderInts.calls (x0_2.size : Int) (x1_8.size : Int) t130 _ A17.out).mono ?_); rintro e w' ⟨rfl, ⟨nd, rfl⟩⟩; refine ⟨_, rfl, ?_⟩))
            go_ret
            exact ⟨by first | rfl | (simp; done) | (simp [*]; done) | (simp [bne_nil_]; done), by repeat (first | exact Drawn0.refl _ | apply Drawn0.step)⟩

/-! ### spec_PyPILocal: function 34 -/
mutual
def spec_PyPILocal.l0 : Nat → List ByteArray → List ByteArray → Int → Option (Int)
  | 0, _, _, _ => none
  | k + 1, x0, x1, x5 => if x5 < (x0.length : Int) then (spec_PyPILocal.j1 k x0 x1 x5 (decide (x5 < (x1.length : Int)))) else (spec_PyPILocal.j1 k x0 x1 x5 false)
def spec_PyPILocal.j1 : Nat → List ByteArray → List ByteArray → Int → Bool → Option (Int)
  | 0, _, _, _, _ => none
  | k + 1, x0, x1, x5, x18 => if x18 = true then (if 0 ≤ x5 then (if x5 < (x0.length : Int) then ((spec_allDigits.f k (rdOf ByteArray.empty x0 x5)).bind fun t133 => (if x5 < (x1.length : Int) then ((spec_allDigits.f k (rdOf ByteArray.empty x1 x5)).bind fun t135 => (if t133 = true then (spec_PyPILocal.j2 k x0 x1 x5 t133 t135 t135) else (spec_PyPILocal.j2 k x0 x1 x5 t133 t135 false))) else (none))) else (none)) else (none)) else ((spec_orderInts.f (x0.length : Int) (x1.length : Int)).bind fun t131 => (some t131))
def spec_PyPILocal.j2 : Nat → List ByteArray → List ByteArray → Int → Bool → Bool → Bool → Option (Int)
  | 0, _, _, _, _, _, _ => none
  | k + 1, x0, x1, x5, x6, x7, x40 => if x40 = true then (if 0 ≤ x5 then (if x5 < (x0.length : Int) then (if x5 < (x1.length : Int) then ((spec_orderNumbers.f k (rdOf ByteArray.empty x0 x5) (rdOf ByteArray.empty x1 x5)).bind fun t138 => (if t138 = 0 then (spec_PyPILocal.l0 k x0 x1 (wrap64 (x5 + 1))) else (some t138))) else (none)) else (none)) else (none)) else (if x6 = true then (if 1 = 0 then (spec_PyPILocal.l0 k x0 x1 (wrap64 (x5 + 1))) else (some 1)) else (if x7 = true then (if (-1) = 0 then (spec_PyPILocal.l0 k x0 x1 (wrap64 (x5 + 1))) else (some (-1))) else (if 0 ≤ x5 then (if x5 < (x0.length : Int) then (if x5 < (x1.length : Int) then ((Giv.spec_order.f (rdOf ByteArray.empty x0 x5) (rdOf ByteArray.empty x1 x5)).bind fun t141 => (if t141 = 0 then (spec_PyPILocal.l0 k x0 x1 (wrap64 (x5 + 1))) else (some t141))) else (none)) else (none)) else (none))))
end
def spec_PyPILocal.f (k : Nat) (l0 : List ByteArray) (l1 : List ByteArray) : Option (Int) := spec_PyPILocal.l0 k l0 l1 0
theorem spec_PyPILocal.mono_l : ∀ k, (∀ y0 y1 y2, LeO (spec_PyPILocal.l0 k y0 y1 y2) (spec_PyPILocal.l0 (k + 1) y0 y1 y2)) ∧ (∀ y0 y1 y2 y3, LeO (spec_PyPILocal.j1 k y0 y1 y2 y3) (spec_PyPILocal.j1 (k + 1) y0 y1 y2 y3)) ∧ (∀ y0 y1 y2 y3 y4 y5, LeO (spec_PyPILocal.j2 k y0 y1 y2 y3 y4 y5) (spec_PyPILocal.j2 (k + 1) y0 y1 y2 y3 y4 y5))
  | 0 => ⟨fun _ _ _ r h => by simp [spec_PyPILocal.l0] at h, fun _ _ _ _ r h => by simp [spec_PyPILocal.j1] at h, fun _ _ _ _ _ _ r h => by simp [spec_PyPILocal.j2] at h⟩
  | k + 1 => by
    obtain ⟨ih0, ih1, ih2⟩ := spec_PyPILocal.mono_l k
    refine ⟨?_, ?_, ?_⟩
    · intro y0 y1 y2
      unfold spec_PyPILocal.l0
      repeat' first
      | (with_reducible exact ih0 _ _ _)
      | (with_reducible exact ih1 _ _ _ _)
      | (with_reducible exact ih2 _ _ _ _ _ _)
      | (with_reducible exact spec_allDigits.mono _ _)
      | (with_reducible exact spec_orderNumbers.mono _ _ _)
      | (with_reducible exact LeO.refl _)
      | (with_reducible exact LeO.none _)
      | (with_reducible refine LeO.ite ?_ ?_)
      | (with_reducible refine LeO.bind ?_ (fun _ => ?_))
      | exact ih0 _ _ _
      | exact ih1 _ _ _ _
      | exact ih2 _ _ _ _ _ _
      | exact spec_allDigits.mono _ _
      | exact spec_orderNumbers.mono _ _ _
      | exact LeO.none _
      | refine LeO.ite ?_ ?_
      | refine LeO.bind ?_ (fun _ => ?_)
    · intro y0 y1 y2 y3
      unfold spec_PyPILocal.j1
      repeat' first
      | (with_reducible exact ih0 _ _ _)
      | (with_reducible exact ih1 _ _ _ _)
      | (with_reducible exact ih2 _ _ _ _ _ _)
      | (with_reducible exact spec_allDigits.mono _ _)
      | (with_reducible exact spec_orderNumbers.mono _ _ _)
      | (with_reducible exact LeO.refl _)
      | (with_reducible exact LeO.none _)
      | (with_reducible refine LeO.ite ?_ ?_)
      | (with_reducible refine LeO.bind ?_ (fun _ => ?_))
      | exact ih0 _ _ _
      | exact ih1 _ _ _ _
      | exact ih2 _ _ _ _ _ _
      | exact spec_allDigits.mono _ _
      | exact spec_orderNumbers.mono _ _ _
      | exact LeO.none _
      | refine LeO.ite ?_ ?_
      | refine LeO.bind ?_ (fun _ => ?_)
    · intro y0 y1 y2 y3 y4 y5
      unfold spec_PyPILocal.j2
      repeat' first
      | (with_reducible exact ih0 _ _ _)
      | (with_reducible exact ih1 _ _ _ _)
      | (with_reducible exact ih2 _ _ _ _ _ _)
      | (with_reducible exact spec_allDigits.mono _ _)
      | (with_reducible exact spec_orderNumbers.mono _ _ _)
      | (with_reducible exact LeO.refl _)
      | (with_reducible exact LeO.none _)
      | (with_reducible refine LeO.ite ?_ ?_)
      | (with_reducible refine LeO.bind ?_ (fun _ => ?_))
      | exact ih0 _ _ _
      | exact ih1 _ _ _ _
      | exact ih2 _ _ _ _ _ _
      | exact spec_allDigits.mono _ _
      | exact spec_orderNumbers.mono _ _ _
      | exact LeO.none _
      | refine LeO.ite ?_ ?_
      | refine LeO.bind ?_ (fun _ => ?_)
theorem spec_PyPILocal.mono : ∀ a0 a1 k, LeO (spec_PyPILocal.f k a0 a1) (spec_PyPILocal.f (k + 1) a0 a1) := by
  intro a0 a1 k
  obtain ⟨ih0, ih1, ih2⟩ := spec_PyPILocal.mono_l k
  unfold spec_PyPILocal.f
  repeat' first
      | (with_reducible exact ih0 _ _ _)
      | (with_reducible exact ih1 _ _ _ _)
      | (with_reducible exact ih2 _ _ _ _ _ _)
      | (with_reducible exact spec_allDigits.mono _ _)
      | (with_reducible exact spec_orderNumbers.mono _ _ _)
      | (with_reducible exact LeO.refl _)
      | (with_reducible exact LeO.none _)
      | (with_reducible refine LeO.ite ?_ ?_)
      | (with_reducible refine LeO.bind ?_ (fun _ => ?_))
      | exact ih0 _ _ _
      | exact ih1 _ _ _ _
      | exact ih2 _ _ _ _ _ _
      | exact spec_allDigits.mono _ _
      | exact spec_orderNumbers.mono _ _ _
      | exact LeO.none _
      | refine LeO.ite ?_ ?_
      | refine LeO.bind ?_ (fun _ => ?_)
set_option maxHeartbeats 8000000 in
set_option maxRecDepth 100000 in
theorem spec_PyPILocal.calls (k : Nat) (A0 : Option Addr) (c0 : Nat) (l0 : List ByteArray) (A1 : Option Addr) (c1 : Nat) (l1 : List ByteArray) (r : Int) (w : World) (hr0 : Kd.C Kd.string w A0 l0.length l0) (hc0 : l0.length ≤ c0) (hr1 : Kd.C Kd.string w A1 l1.length l1) (hc1 : l1.length ≤ c1) (h : spec_PyPILocal.f k l0 l1 = some r) :
    Calls Tryd.prog 34 #[.slice A0 l0.length c0, .slice A1 l1.length c1] w fun e w' => e = .returned (.int .i64 r) ∧ Drawn0 w w' := by
  have HR0 := Aside0.mk hr0
  have HC0 := Aside0.mk hc0
  clear hr0 hc0
  have HR1 := Aside0.mk hr1
  have HC1 := Aside0.mk hc1
  clear hr1 hc1
  have H : (spec_PyPILocal.l0 k l0 l1 0) = some r := h
  clear h
  have H' := Aside0.mk H
  clear H
  go_enter Tryd.func34, Tryd.ntmps34
  go_wp2
  repeat (go_quiet (fail); try go_wp2)
  go_loopg [5] k (fun kq v5 w' => ∃ (x5_1 : Int), v5 = .int .i64 x5_1 ∧ Aside0 (spec_PyPILocal.l0 kq l0 l1 x5_1 = some r) ∧ Aside0 (kq ≤ k) ∧ Drawn0 w w')
  case atStart => exact ⟨(0), (by first | rfl | (simp; done) | (simp [*]; done) | (simp [bne_nil_]; done)), H', ⟨Nat.le_refl _⟩, by repeat (first | exact Drawn0.refl _ | apply Drawn0.step)⟩
  case round =>
    clear H'
    try clear c1
    try clear p2
    obtain ⟨x5_1, rfl, HA, HK1, ⟨m1, rfl⟩⟩ := hrel
    cases gk with
    | zero => exact absurd HA.out (by simp [spec_PyPILocal.l0])
    | succ k1 =>
      have H := HA.out
      clear HA
      simp only [spec_PyPILocal.l0] at H
      have HC3 := Aside0.mk H
      clear H
      go_upto_region 2 with (fail)
      repeat (go_quiet (fail); go_upto_region 2 with (fail))
      go_cut [18] (fun v18 wc => ∃ (kq : Nat) (x18_2 : Bool), v18 = .bool x18_2 ∧ Aside0 (spec_PyPILocal.j1 kq l0 l1 x5_1 x18_2 = some r) ∧ Aside0 (kq ≤ k1) ∧ Drawn0 w wc)
      case first =>
        have H := HC3.out
        clear HC3
        by_cases c4 : x5_1 < (l0.length : Int)
        · rw [if_pos c4] at H
          have c4b0 : decide (x5_1 < (l0.length : Int)) = true := decide_eq_true c4
          clear c4
          (first | rw [c4b0] | (simp only [i64_w, i32_w]; rw [c4b0]) | skip)
          have H' := Aside0.mk H
          clear H
          go_wp2
          repeat (go_quiet (fail); try go_wp2)
          go_meet
          case rel => exact ⟨_, (decide (x5_1 < (l1.length : Int))), (by first | rfl | (simp; done) | (simp [*]; done) | (simp [bne_nil_]; done)), H', ⟨by have := HK1.out; first | omega | exact Nat.le_refl _⟩, by repeat (first | exact Drawn0.refl _ | apply Drawn0.step)⟩
        · rw [if_neg c4] at H
          have c4b0 : decide (x5_1 < (l0.length : Int)) = false := decide_eq_false c4
          clear c4
          (first | rw [c4b0] | (simp only [i64_w, i32_w]; rw [c4b0]) | skip)
          have H' := Aside0.mk H
          clear H
          go_wp2
          repeat (go_quiet (fail); try go_wp2)
          go_meet
          case rel => exact ⟨_, (false), (by first | rfl | (simp; done) | (simp [*]; done) | (simp [bne_nil_]; done)), H', ⟨by have := HK1.out; first | omega | exact Nat.le_refl _⟩, by repeat (first | exact Drawn0.refl _ | apply Drawn0.step)⟩
      case rest =>
        clear HC3
        try clear c1
        try clear p2
        try clear c3
        try clear c4
        try clear c4b0
        try clear p2
        obtain ⟨kq, x18_2, rfl, HA, HJ2, ⟨mc2, rfl⟩⟩ := hcut
        cases kq with
        | zero => exact absurd HA.out (by simp [spec_PyPILocal.j1])
        | succ kj2 =>
          have H := HA.out
          clear HA
          simp only [spec_PyPILocal.j1] at H
          by_cases c5 : x18_2 = true
          · subst c5
            have H1 : (if 0 ≤ x5_1 then (if x5_1 < (l0.length : Int) then ((spec_allDigits.f kj2 (rdOf ByteArray.empty l0 x5_1)).bind fun t133 => (if x5_1 < (l1.length : Int) then ((spec_allDigits.f kj2 (rdOf ByteArray.empty l1 x5_1)).bind fun t135 => (if t133 = true then (spec_PyPILocal.j2 kj2 l0 l1 x5_1 t133 t135 t135) else (spec_PyPILocal.j2 kj2 l0 l1 x5_1 t133 t135 false))) else (none))) else (none)) else (none)) = some r := by rw [if_pos rfl] at H; exact H
            clear H
            have H := H1
            clear H1
            by_cases c6 : 0 ≤ x5_1
            · rw [if_pos c6] at H
              have c6b0 : decide (0 ≤ x5_1) = true := decide_eq_true c6
              clear c6
              by_cases c7 : x5_1 < (l0.length : Int)
              · rw [if_pos c7] at H
                have c7b0 : decide (x5_1 < (l0.length : Int)) = true := decide_eq_true c7
                clear c7
                replace H := Option.bind_eq_some_iff.mp H
                obtain ⟨t133, A80, H⟩ := H
                replace H : (if x5_1 < (l1.length : Int) then ((spec_allDigits.f kj2 (rdOf ByteArray.empty l1 x5_1)).bind fun t135 => (if t133 = true then (spec_PyPILocal.j2 kj2 l0 l1 x5_1 t133 t135 t135) else (spec_PyPILocal.j2 kj2 l0 l1 x5_1 t133 t135 false))) else (none)) = some r := H
                have A8 := Aside0.mk A80
                clear A80
                by_cases c9 : x5_1 < (l1.length : Int)
                · rw [if_pos c9] at H
                  have c9b0 : decide (x5_1 < (l1.length : Int)) = true := decide_eq_true c9
                  clear c9
                  replace H := Option.bind_eq_some_iff.mp H
                  obtain ⟨t135, A100, H⟩ := H
                  replace H : (if t133 = true then (spec_PyPILocal.j2 kj2 l0 l1 x5_1 t133 t135 t135) else (spec_PyPILocal.j2 kj2 l0 l1 x5_1 t133 t135 false)) = some r := H
                  have A10 := Aside0.mk A100
                  clear A100
                  have HC11 := Aside0.mk H
                  clear H
                  have p132 : 0 ≤ (x5_1 : Int) := of_decide_eq_true (by first | (with_reducible assumption) | assumption)
                  have q132 : x5_1 < (l0.length : Int) := of_decide_eq_true (by first | (with_reducible assumption) | assumption)
                  obtain ⟨ad132, e132, hx132_0⟩ := Kd.at_string HR0.out x5_1 p132 q132
                  cases e132
                  replace p132 := eq_true p132
                  replace q132 := eq_true q132
                  go_upto_region 7 with (first | (go_at_call 58; (with_reducible refine (spec_allDigits.calls kj2 (rdOf ByteArray.empty l0 x5_1) t133 _ A8.out).mono ?_); rintro e w' ⟨rfl, ⟨nd, rfl⟩⟩; (try first | exact ⟨rfl, _, World.drewN_drewN _ _ _⟩ | exact ⟨rfl, _, Eq.trans (World.drewN_drewN _ _ _) (congrArg (World.drewN _) (Nat.add_assoc _ _ _))⟩); have p134 : 0 ≤ (x5_1 : Int) := of_decide_eq_true (by first | (with_reducible assumption) | assumption); have q134 : x5_1 < (l1.length : Int) := of_decide_eq_true (by first | (with_reducible assumption) | assumption); obtain ⟨ad134, e134, hx134_0⟩ := Kd.at_string HR1.out x5_1 p134 q134; cases e134; replace p134 := eq_true p134; replace q134 := eq_true q134) | (go_at_call 58; (with_reducible refine (spec_allDigits.calls kj2 (rdOf ByteArray.empty l1 x5_1) t135 _ A10.out).mono ?_); rintro e w' ⟨rfl, ⟨nd, rfl⟩⟩; (try first | exact ⟨rfl, _, World.drewN_drewN _ _ _⟩ | exact ⟨rfl, _, Eq.trans (World.drewN_drewN _ _ _) (congrArg (World.drewN _) (Nat.add_assoc _ _ _))⟩)))
                  repeat (go_quiet (first | (go_at_call 58; (with_reducible refine (spec_allDigits.calls kj2 (rdOf ByteArray.empty l0 x5_1) t133 _ A8.out).mono ?_); rintro e w' ⟨rfl, ⟨nd, rfl⟩⟩; (try first | exact ⟨rfl, _, World.drewN_drewN _ _ _⟩ | exact ⟨rfl, _, Eq.trans (World.drewN_drewN _ _ _) (congrArg (World.drewN _) (Nat.add_assoc _ _ _))⟩); have p134 : 0 ≤ (x5_1 : Int) := of_decide_eq_true (by first | (with_reducible assumption) | assumption); have q134 : x5_1 < (l1.length : Int) := of_decide_eq_true (by first | (with_reducible assumption) | assumption); obtain ⟨ad134, e134, hx134_0⟩ := Kd.at_string HR1.out x5_1 p134 q134; cases e134; replace p134 := eq_true p134; replace q134 := eq_true q134) | (go_at_call 58; (with_reducible refine (spec_allDigits.calls kj2 (rdOf ByteArray.empty l1 x5_1) t135 _ A10.out).mono ?_); rintro e w' ⟨rfl, ⟨nd, rfl⟩⟩; (try first | exact ⟨rfl, _, World.drewN_drewN _ _ _⟩ | exact ⟨rfl, _, Eq.trans (World.drewN_drewN _ _ _) (congrArg (World.drewN _) (Nat.add_assoc _ _ _))⟩))); go_upto_region 7 with (first | (go_at_call 58; (with_reducible refine (spec_allDigits.calls kj2 (rdOf ByteArray.empty l0 x5_1) t133 _ A8.out).mono ?_); rintro e w' ⟨rfl, ⟨nd, rfl⟩⟩; (try first | exact ⟨rfl, _, World.drewN_drewN _ _ _⟩ | exact ⟨rfl, _, Eq.trans (World.drewN_drewN _ _ _) (congrArg (World.drewN _) (Nat.add_assoc _ _ _))⟩); have p134 : 0 ≤ (x5_1 : Int) := of_decide_eq_true (by first | (with_reducible assumption) | assumption); have q134 : x5_1 < (l1.length : Int) := of_decide_eq_true (by first | (with_reducible assumption) | assumption); obtain ⟨ad134, e134, hx134_0⟩ := Kd.at_string HR1.out x5_1 p134 q134; cases e134; replace p134 := eq_true p134; replace q134 := eq_true q134) | (go_at_call 58; (with_reducible refine (spec_allDigits.calls kj2 (rdOf ByteArray.empty l1 x5_1) t135 _ A10.out).mono ?_); rintro e w' ⟨rfl, ⟨nd, rfl⟩⟩; (try first | exact ⟨rfl, _, World.drewN_drewN _ _ _⟩ | exact ⟨rfl, _, Eq.trans (World.drewN_drewN _ _ _) (congrArg (World.drewN _) (Nat.add_assoc _ _ _))⟩))))
                  (try simp only [Act.put, List.setIfInBounds_toArray, List.set_cons_zero, List.set_cons_succ])
                  go_cut [40] (fun v40 wc => ∃ (kq : Nat) (x40_10 : Bool), v40 = .bool x40_10 ∧ Aside0 (spec_PyPILocal.j2 kq l0 l1 x5_1 t133 t135 x40_10 = some r) ∧ Aside0 (kq ≤ kj2) ∧ Drawn0 w wc)
                  case first =>
                    have H := HC11.out
                    clear HC11
                    by_cases c12 : t133 = true
                    · subst c12
                      have H1 : (spec_PyPILocal.j2 kj2 l0 l1 x5_1 true t135 t135) = some r := by rw [if_pos rfl] at H; exact H
                      clear H
                      have H := H1
                      clear H1
                      have H' := Aside0.mk H
                      clear H
                      go_wp2
                      repeat (go_quiet (fail); try go_wp2)
                      go_meet
                      case rel => exact ⟨_, (t135), (by first | rfl | (simp; done) | (simp [*]; done) | (simp [bne_nil_]; done)), H', ⟨by have := HK1.out; have := HJ2.out; first | omega | exact Nat.le_refl _⟩, by repeat (first | exact Drawn0.refl _ | apply Drawn0.step)⟩
                    · replace c12 := Bool.eq_false_iff.mpr c12
                      subst c12
                      have H1 : (spec_PyPILocal.j2 kj2 l0 l1 x5_1 false t135 false) = some r := by rw [if_neg (show ¬ (false = true) by decide)] at H; exact H
                      clear H
                      have H := H1
                      clear H1
                      have H' := Aside0.mk H
                      clear H
                      go_wp2
                      repeat (go_quiet (fail); try go_wp2)
                      go_meet
                      case rel => exact ⟨_, (false), (by first | rfl | (simp; done) | (simp [*]; done) | (simp [bne_nil_]; done)), H', ⟨by have := HK1.out; have := HJ2.out; first | omega | exact Nat.le_refl _⟩, by repeat (first | exact Drawn0.refl _ | apply Drawn0.step)⟩
                  case rest =>
                    clear HC11
                    try clear c1
                    try clear p1
                    try clear q1
                    try clear hx1
                    try clear c2
                    try clear p2
                    try clear c3
                    try clear c4
                    try clear c4b0
                    try clear c5
                    try clear c6
                    try clear c6b0
                    try clear c7
                    try clear c7b0
                    try clear c9
                    try clear c9b0
                    try clear c12
                    try clear hx132_0
                    try clear hx134_0
                    try clear p132
                    try clear p134
                    try clear p2
                    try clear q132
                    try clear q134
                    obtain ⟨kq, x40_10, rfl, HA, HJ10, ⟨mc10, rfl⟩⟩ := hcut
                    cases kq with
                    | zero => exact absurd HA.out (by simp [spec_PyPILocal.j2])
                    | succ kj10 =>
                      have H := HA.out
                      clear HA
                      simp only [spec_PyPILocal.j2] at H
                      by_cases c13 : x40_10 = true
                      · subst c13
                        have H1 : (if 0 ≤ x5_1 then (if x5_1 < (l0.length : Int) then (if x5_1 < (l1.length : Int) then ((spec_orderNumbers.f kj10 (rdOf ByteArray.empty l0 x5_1) (rdOf ByteArray.empty l1 x5_1)).bind fun t138 => (if t138 = 0 then (spec_PyPILocal.l0 kj10 l0 l1 (wrap64 (x5_1 + 1))) else (some t138))) else (none)) else (none)) else (none)) = some r := by rw [if_pos rfl] at H; exact H
                        clear H
                        have H := H1
                        clear H1
                        by_cases c14 : 0 ≤ x5_1
                        · rw [if_pos c14] at H
                          have c14b0 : decide (0 ≤ x5_1) = true := decide_eq_true c14
                          clear c14
                          by_cases c15 : x5_1 < (l0.length : Int)
                          · rw [if_pos c15] at H
                            have c15b0 : decide (x5_1 < (l0.length : Int)) = true := decide_eq_true c15
                            clear c15
                            by_cases c16 : x5_1 < (l1.length : Int)
                            · rw [if_pos c16] at H
                              have c16b0 : decide (x5_1 < (l1.length : Int)) = true := decide_eq_true c16
                              clear c16
                              replace H := Option.bind_eq_some_iff.mp H
                              obtain ⟨t138, A170, H⟩ := H
                              replace H : (if t138 = 0 then (spec_PyPILocal.l0 kj10 l0 l1 (wrap64 (x5_1 + 1))) else (some t138)) = some r := H
                              have A17 := Aside0.mk A170
                              clear A170
                              by_cases c18 : t138 = 0
                              · rw [if_pos c18] at H
                                have c18b0 : (t138 == 0) = true := beq_iff_eq.mpr c18
                                have c18b1 : (t138 != 0) = false := bne_eq_false_iff_eq.mpr c18
                                clear c18
                                have H' := Aside0.mk H
                                clear H
                                have p136 : 0 ≤ (x5_1 : Int) := of_decide_eq_true (by first | (with_reducible assumption) | assumption)
                                have q136 : x5_1 < (l0.length : Int) := of_decide_eq_true (by first | (with_reducible assumption) | assumption)
                                obtain ⟨ad136, e136, hx136_0⟩ := Kd.at_string HR0.out x5_1 p136 q136
                                obtain rfl : ad132 = ad136 := (by injection e136)
                                replace p136 := eq_true p136
                                replace q136 := eq_true q136
                                have p137 : 0 ≤ (x5_1 : Int) := of_decide_eq_true (by first | (with_reducible assumption) | assumption)
                                have q137 : x5_1 < (l1.length : Int) := of_decide_eq_true (by first | (with_reducible assumption) | assumption)
                                obtain ⟨ad137, e137, hx137_0⟩ := Kd.at_string HR1.out x5_1 p137 q137
                                obtain rfl : ad134 = ad137 := (by injection e137)
                                replace p137 := eq_true p137
                                replace q137 := eq_true q137
                                go_wp2_with (first | (go_at_call 74; (with_reducible refine (spec_orderNumbers.calls kj10 (rdOf ByteArray.empty l0 x5_1) (rdOf ByteArray.empty l1 x5_1) t138 _ A17.out).mono ?_); rintro e w' ⟨rfl, ⟨nd, rfl⟩⟩; (try first | exact ⟨rfl, _, World.drewN_drewN _ _ _⟩ | exact ⟨rfl, _, Eq.trans (World.drewN_drewN _ _ _) (congrArg (World.drewN _) (Nat.add_assoc _ _ _))⟩)))
                                repeat (go_quiet (first | (go_at_call 74; (with_reducible refine (spec_orderNumbers.calls kj10 (rdOf ByteArray.empty l0 x5_1) (rdOf ByteArray.empty l1 x5_1) t138 _ A17.out).mono ?_); rintro e w' ⟨rfl, ⟨nd, rfl⟩⟩; (try first | exact ⟨rfl, _, World.drewN_drewN _ _ _⟩ | exact ⟨rfl, _, Eq.trans (World.drewN_drewN _ _ _) (congrArg (World.drewN _) (Nat.add_assoc _ _ _))⟩))); try go_wp2_with (first | (go_at_call 74; (with_reducible refine (spec_orderNumbers.calls kj10 (rdOf ByteArray.empty l0 x5_1) (rdOf ByteArray.empty l1 x5_1) t138 _ A17.out).mono ?_); rintro e w' ⟨rfl, ⟨nd, rfl⟩⟩; (try first | exact ⟨rfl, _, World.drewN_drewN _ _ _⟩ | exact ⟨rfl, _, Eq.trans (World.drewN_drewN _ _ _) (congrArg (World.drewN _) (Nat.add_assoc _ _ _))⟩))))
                                go_roundg kj10
                                case measure => have := HK1.out; have := HJ2.out; have := HJ10.out; omega
                                case rel => exact ⟨(wrap64 (x5_1 + 1)), (by first | rfl | (simp; done) | (simp [*]; done) | (simp [bne_nil_]; done)), H', ⟨by have := HK1.out; have := HJ2.out; have := HJ10.out; omega⟩, by repeat (first | exact Drawn0.refl _ | apply Drawn0.step)⟩
                              · rw [if_neg c18] at H
                                have c18b0 : (t138 == 0) = false := beq_eq_false_iff_ne.mpr c18
                                have c18b1 : (t138 != 0) = true := bne_iff_ne.mpr c18
                                obtain rfl := Option.some.inj H
                                have p136 : 0 ≤ (x5_1 : Int) := of_decide_eq_true (by first | (with_reducible assumption) | assumption)
                                have q136 : x5_1 < (l0.length : Int) := of_decide_eq_true (by first | (with_reducible assumption) | assumption)
                                obtain ⟨ad136, e136, hx136_0⟩ := Kd.at_string HR0.out x5_1 p136 q136
                                obtain rfl : ad132 = ad136 := (by injection e136)
                                replace p136 := eq_true p136
                                replace q136 := eq_true q136
                                have p137 : 0 ≤ (x5_1 : Int) := of_decide_eq_true (by first | (with_reducible assumption) | assumption)
                                have q137 : x5_1 < (l1.length : Int) := of_decide_eq_true (by first | (with_reducible assumption) | assumption)
                                obtain ⟨ad137, e137, hx137_0⟩ := Kd.at_string HR1.out x5_1 p137 q137
                                obtain rfl : ad134 = ad137 := (by injection e137)
                                replace p137 := eq_true p137
                                replace q137 := eq_true q137
                                go_wp2_with (first | (go_at_call 74; (with_reducible refine (spec_orderNumbers.calls kj10 (rdOf ByteArray.empty l0 x5_1) (rdOf ByteArray.empty l1 x5_1) t138 _ A17.out).mono ?_); rintro e w' ⟨rfl, ⟨nd, rfl⟩⟩; (try first | exact ⟨rfl, _, World.drewN_drewN _ _ _⟩ | exact ⟨rfl, _, Eq.trans (World.drewN_drewN _ _ _) (congrArg (World.drewN _) (Nat.add_assoc _ _ _))⟩)))
                                repeat (go_quiet (first | (go_at_call 74; (with_reducible refine (spec_orderNumbers.calls kj10 (rdOf ByteArray.empty l0 x5_1) (rdOf ByteArray.empty l1 x5_1) t138 _ A17.out).mono ?_); rintro e w' ⟨rfl, ⟨nd, rfl⟩⟩; (try first | exact ⟨rfl, _, World.drewN_drewN _ _ _⟩ | exact ⟨rfl, _, Eq.trans (World.drewN_drewN _ _ _) (congrArg (World.drewN _) (Nat.add_assoc _ _ _))⟩))); try go_wp2_with (first | (go_at_call 74; (with_reducible refine (spec_orderNumbers.calls kj10 (rdOf ByteArray.empty l0 x5_1) (rdOf ByteArray.empty l1 x5_1) t138 _ A17.out).mono ?_); rintro e w' ⟨rfl, ⟨nd, rfl⟩⟩; (try first | exact ⟨rfl, _, World.drewN_drewN _ _ _⟩ | exact ⟨rfl, _, Eq.trans (World.drewN_drewN _ _ _) (congrArg (World.drewN _) (Nat.add_assoc _ _ _))⟩))))
                                go_ret
                                exact ⟨by first | rfl | (simp; done) | (simp [*]; done) | (simp [bne_nil_]; done), by repeat (first | exact Drawn0.refl _ | apply Drawn0.step)⟩
                            · rw [if_neg c16] at H
                              exact absurd H (by simp)
                          · rw [if_neg c15] at H
                            exact absurd H (by simp)
                        · rw [if_neg c14] at H
                          exact absurd H (by simp)
                      · replace c13 := Bool.eq_false_iff.mpr c13
                        subst c13
                        have H1 : (if t133 = true then (if 1 = 0 then (spec_PyPILocal.l0 kj10 l0 l1 (wrap64 (x5_1 + 1))) else (some 1)) else (if t135 = true then (if (-1) = 0 then (spec_PyPILocal.l0 kj10 l0 l1 (wrap64 (x5_1 + 1))) else (some (-1))) else (if 0 ≤ x5_1 then (if x5_1 < (l0.length : Int) then (if x5_1 < (l1.length : Int) then ((Giv.spec_order.f (rdOf ByteArray.empty l0 x5_1) (rdOf ByteArray.empty l1 x5_1)).bind fun t141 => (if t141 = 0 then (spec_PyPILocal.l0 kj10 l0 l1 (wrap64 (x5_1 + 1))) else (some t141))) else (none)) else (none)) else (none)))) = some r := by rw [if_neg (show ¬ (false = true) by decide)] at H; exact H
                        clear H
                        have H := H1
                        clear H1
                        by_cases c19 : t133 = true
                        · subst c19
                          have H1 : (if 1 = 0 then (spec_PyPILocal.l0 kj10 l0 l1 (wrap64 (x5_1 + 1))) else (some 1)) = some r := by rw [if_pos rfl] at H; exact H
                          clear H
                          have H := H1
                          clear H1
                          by_cases c20 : 1 = 0
                          · exact absurd c20 (by decide)
                          · rw [if_neg c20] at H
                            have c20b0 : (1 == 0) = false := beq_eq_false_iff_ne.mpr c20
                            have c20b1 : (1 != 0) = true := bne_iff_ne.mpr c20
                            obtain rfl := Option.some.inj H
                            go_wp2
                            repeat (go_quiet (fail); try go_wp2)
                            go_ret
                            exact ⟨by first | rfl | (simp; done) | (simp [*]; done) | (simp [bne_nil_]; done), by repeat (first | exact Drawn0.refl _ | apply Drawn0.step)⟩
                        · replace c19 := Bool.eq_false_iff.mpr c19
                          subst c19
                          have H1 : (if t135 = true then (if (-1) = 0 then (spec_PyPILocal.l0 kj10 l0 l1 (wrap64 (x5_1 + 1))) else (some (-1))) else (if 0 ≤ x5_1 then (if x5_1 < (l0.length : Int) then (if x5_1 < (l1.length : Int) then ((Giv.spec_order.f (rdOf ByteArray.empty l0 x5_1) (rdOf ByteArray.empty l1 x5_1)).bind fun t141 => (if t141 = 0 then (spec_PyPILocal.l0 kj10 l0 l1 (wrap64 (x5_1 + 1))) else (some t141))) else (none)) else (none)) else (none))) = some r := by rw [if_neg (show ¬ (false = true) by decide)] at H; exact H
                          clear H
                          have H := H1
                          clear H1
                          by_cases c21 : t135 = true
                          · subst c21
                            have H1 : (if (-1) = 0 then (spec_PyPILocal.l0 kj10 l0 l1 (wrap64 (x5_1 + 1))) else (some (-1))) = some r := by rw [if_pos rfl] at H; exact H
                            clear H
                            have H := H1
                            clear H1
                            by_cases c22 : (-1) = 0
                            · exact absurd c22 (by decide)
                            · rw [if_neg c22] at H
                              have c22b0 : ((-1) == 0) = false := beq_eq_false_iff_ne.mpr c22
                              have c22b1 : ((-1) != 0) = true := bne_iff_ne.mpr c22
                              obtain rfl := Option.some.inj H
                              go_wp2
                              repeat (go_quiet (fail); try go_wp2)
                              go_ret
                              exact ⟨by first | rfl | (simp; done) | (simp [*]; done) | (simp [bne_nil_]; done), by repeat (first | exact Drawn0.refl _ | apply Drawn0.step)⟩
                          · replace c21 := Bool.eq_false_iff.mpr c21
                            subst c21
                            have H1 : (if 0 ≤ x5_1 then (if x5_1 < (l0.length : Int) then (if x5_1 < (l1.length : Int) then ((Giv.spec_order.f (rdOf ByteArray.empty l0 x5_1) (rdOf ByteArray.empty l1 x5_1)).bind fun t141 => (if t141 = 0 then (spec_PyPILocal.l0 kj10 l0 l1 (wrap64 (x5_1 + 1))) else (some t141))) else (none)) else (none)) else (none)) = some r := by rw [if_neg (show ¬ (false = true) by decide)] at H; exact H
                            clear H
                            have H := H1
                            clear H1
                            by_cases c23 : 0 ≤ x5_1
                            · rw [if_pos c23] at H
                              have c23b0 : decide (0 ≤ x5_1) = true := decide_eq_true c23
                              clear c23
                              by_cases c24 : x5_1 < (l0.length : Int)
                              · rw [if_pos c24] at H
                                have c24b0 : decide (x5_1 < (l0.length : Int)) = true := decide_eq_true c24
                                clear c24
                                by_cases c25 : x5_1 < (l1.length : Int)
                                · rw [if_pos c25] at H
                                  have c25b0 : decide (x5_1 < (l1.length : Int)) = true := decide_eq_true c25
                                  clear c25
                                  replace H := Option.bind_eq_some_iff.mp H
                                  obtain ⟨t141, A260, H⟩ := H
                                  replace H : (if t141 = 0 then (spec_PyPILocal.l0 kj10 l0 l1 (wrap64 (x5_1 + 1))) else (some t141)) = some r := H
                                  have A26 := Aside0.mk A260
                                  clear A260
                                  by_cases c27 : t141 = 0
                                  · rw [if_pos c27] at H
                                    have c27b0 : (t141 == 0) = true := beq_iff_eq.mpr c27
                                    have c27b1 : (t141 != 0) = false := bne_eq_false_iff_eq.mpr c27
                                    clear c27
                                    have H' := Aside0.mk H
                                    clear H
                                    have p139 : 0 ≤ (x5_1 : Int) := of_decide_eq_true (by first | (with_reducible assumption) | assumption)
                                    have q139 : x5_1 < (l0.length : Int) := of_decide_eq_true (by first | (with_reducible assumption) | assumption)
                                    obtain ⟨ad139, e139, hx139_0⟩ := Kd.at_string HR0.out x5_1 p139 q139
                                    obtain rfl : ad132 = ad139 := (by injection e139)
                                    replace p139 := eq_true p139
                                    replace q139 := eq_true q139
                                    have p140 : 0 ≤ (x5_1 : Int) := of_decide_eq_true (by first | (with_reducible assumption) | assumption)
                                    have q140 : x5_1 < (l1.length : Int) := of_decide_eq_true (by first | (with_reducible assumption) | assumption)
                                    obtain ⟨ad140, e140, hx140_0⟩ := Kd.at_string HR1.out x5_1 p140 q140
                                    obtain rfl : ad134 = ad140 := (by injection e140)
                                    replace p140 := eq_true p140
                                    replace q140 := eq_true q140
                                    go_wp2_with (first | (go_at_call 75; (with_reducible refine (Giv.spec_order.calls (rdOf ByteArray.empty l0 x5_1) (rdOf ByteArray.empty l1 x5_1) t141 _ A26.out).mono ?_); rintro e w' ⟨rfl, ⟨nd, rfl⟩⟩; (try first | exact ⟨rfl, _, World.drewN_drewN _ _ _⟩ | exact ⟨rfl, _, Eq.trans (World.drewN_drewN _ _ _) (congrArg (World.drewN _) (Nat.add_assoc _ _ _))⟩)))
                                    repeat (go_quiet (first | (go_at_call 75; (with_reducible refine (Giv.spec_order.calls (rdOf ByteArray.empty l0 x5_1) (rdOf ByteArray.empty l1 x5_1) t141 _ A26.out).mono ?_); rintro e w' ⟨rfl, ⟨nd, rfl⟩⟩; (try first | exact ⟨rfl, _, World.drewN_drewN _ _ _⟩ | exact ⟨rfl, _, Eq.trans (World.drewN_drewN _ _ _) (congrArg (World.drewN _) (Nat.add_assoc _ _ _))⟩))); try go_wp2_with (first | (go_at_call 75; (with_reducible refine (Giv.spec_order.calls (rdOf ByteArray.empty l0 x5_1) (rdOf ByteArray.empty l1 x5_1) t141 _ A26.out).mono ?_); rintro e w' ⟨rfl, ⟨nd, rfl⟩⟩; (try first | exact ⟨rfl, _, World.drewN_drewN _ _ _⟩ | exact ⟨rfl, _, Eq.trans (World.drewN_drewN _ _ _) (congrArg (World.drewN _) (Nat.add_assoc _ _ _))⟩))))
                                    go_roundg kj10
                                    case measure => have := HK1.out; have := HJ2.out; have := HJ10.out; omega
                                    case rel => exact ⟨(wrap64 (x5_1 + 1)), (by first | rfl | (simp; done) | (simp [*]; done) | (simp [bne_nil_]; done)), H', ⟨by have := HK1.out; have := HJ2.out; have := HJ10.out; omega⟩, by repeat (first | exact Drawn0.refl _ | apply Drawn0.step)⟩
                                  · rw [if_neg c27] at H
                                    have c27b0 : (t141 == 0) = false := beq_eq_false_iff_ne.mpr c27
                                    have c27b1 : (t141 != 0) = true := bne_iff_ne.mpr c27
                                    obtain rfl := Option.some.inj H
                                    have p139 : 0 ≤ (x5_1 : Int) := of_decide_eq_true (by first | (with_reducible assumption) | assumption)
                                    have q139 : x5_1 < (l0.length : Int) := of_decide_eq_true (by first | (with_reducible assumption) | assumption)
                                    obtain ⟨ad139, e139, hx139_0⟩ := Kd.at_string HR0.out x5_1 p139 q139
                                    obtain rfl : ad132 = ad139 := (by injection e139)
                                    replace p139 := eq_true p139
                                    replace q139 := eq_true q139
                                    have p140 : 0 ≤ (x5_1 : Int) := of_decide_eq_true (by first | (with_reducible assumption) | assumption)
                                    have q140 : x5_1 < (l1.length : Int) := of_decide_eq_true (by first | (with_reducible assumption) | assumption)
                                    obtain ⟨ad140, e140, hx140_0⟩ := Kd.at_string HR1.out x5_1 p140 q140
                                    obtain rfl : ad134 = ad140 := (by injection e140)
                                    replace p140 := eq_true p140
                                    replace q140 := eq_true q140
                                    go_wp2_with (first | (go_at_call 75; (with_reducible refine (Giv.spec_order.calls (rdOf ByteArray.empty l0 x5_1) (rdOf ByteArray.empty l1 x5_1) t141 _ A26.out).mono ?_); rintro e w' ⟨rfl, ⟨nd, rfl⟩⟩; (try first | exact ⟨rfl, _, World.drewN_drewN _ _ _⟩ | exact ⟨rfl, _, Eq.trans (World.drewN_drewN _ _ _) (congrArg (World.drewN _) (Nat.add_assoc _ _ _))⟩)))
                                    repeat (go_quiet (first | (go_at_call 75; (with_reducible refine (Giv.spec_order.calls (rdOf ByteArray.empty l0 x5_1) (rdOf ByteArray.empty l1 x5_1) t141 _ A26.out).mono ?_); rintro e w' ⟨rfl, ⟨nd, rfl⟩⟩; (try first | exact ⟨rfl, _, World.drewN_drewN _ _ _⟩ | exact ⟨rfl, _, Eq.trans (World.drewN_drewN _ _ _) (congrArg (World.drewN _) (Nat.add_assoc _ _ _))⟩))); try go_wp2_with (first | (go_at_call 75; (with_reducible refine (Giv.spec_order.calls (rdOf ByteArray.empty l0 x5_1) (rdOf ByteArray.empty l1 x5_1) t141 _ A26.out).mono ?_); rintro e w' ⟨rfl, ⟨nd, rfl⟩⟩; (try first | exact ⟨rfl, _, World.drewN_drewN _ _ _⟩ | exact ⟨rfl, _, Eq.trans (World.drewN_drewN _ _ _) (congrArg (World.drewN _) (Nat.add_assoc _ _ _))⟩))))
                                    go_ret
                                    exact ⟨by first | rfl | (simp; done) | (simp [*]; done) | (simp [bne_nil_]; done), by repeat (first | exact Drawn0.refl _ | apply Drawn0.step)⟩
                                · rw [if_neg c25] at H
                                  exact absurd H (by simp)
                              · rw [if_neg c24] at H
                                exact absurd H (by simp)
                            · rw [if_neg c23] at H
                              exact absurd H (by simp)
                · rw [if_neg c9] at H
                  exact absurd H (by simp)
              · rw [if_neg c7] at H
                exact absurd H (by simp)
            · rw [if_neg c6] at H
              exact absurd H (by simp)
          · replace c5 := Bool.eq_false_iff.mpr c5
            subst c5
            have H1 : ((spec_orderInts.f (l0.length : Int) (l1.length : Int)).bind fun t131 => (some t131)) = some r := by rw [if_neg (show ¬ (false = true) by decide)] at H; exact H
            clear H
            have H := H1
            clear H1
            replace H := Option.bind_eq_some_iff.mp H
            obtain ⟨t131, A280, H⟩ := H
            replace H : (some t131) = some r := H
            have A28 := Aside0.mk A280
            clear A280
            obtain rfl := Option.some.inj H
            go_wp2_with (first | (go_at_call 76; (with_reducible refine (spec_orderInts.calls (l0.length : Int) (l1.length : Int) t131 _ A28.out).mono ?_); rintro e w' ⟨rfl, ⟨nd, rfl⟩⟩; (try first | exact ⟨rfl, _, World.drewN_drewN _ _ _⟩ | exact ⟨rfl, _, Eq.trans (World.drewN_drewN _ _ _) (congrArg (World.drewN _) (Nat.add_assoc _ _ _))⟩)))
            repeat (go_quiet (first | (go_at_call 76; (with_reducible refine (spec_orderInts.calls (l0.length : Int) (l1.length : Int) t131 _ A28.out).mono ?_); rintro e w' ⟨rfl, ⟨nd, rfl⟩⟩; (try first | exact ⟨rfl, _, World.drewN_drewN _ _ _⟩ | exact ⟨rfl, _, Eq.trans (World.drewN_drewN _ _ _) (congrArg (World.drewN _) (Nat.add_assoc _ _ _))⟩))); try go_wp2_with (first | (go_at_call 76; (with_reducible refine (spec_orderInts.calls (l0.length : Int) (l1.length : Int) t131 _ A28.out).mono ?_); rintro e w' ⟨rfl, ⟨nd, rfl⟩⟩; (try first | exact ⟨rfl, _, World.drewN_drewN _ _ _⟩ | exact ⟨rfl, _, Eq.trans (World.drewN_drewN _ _ _) (congrArg (World.drewN _) (Nat.add_assoc _ _ _))⟩))))
            go_ret
            exact ⟨by first | rfl | (simp; done) | (simp [*]; done) | (simp [bne_nil_]; done), by repeat (first | exact Drawn0.refl _ | apply Drawn0.step)⟩

/-! ### laws_turned: function 35 -/
def laws_turned.f (a0 : Int) (a1 : Int) : Option (Bool) := if a0 = (wrap64 (-a1)) then (if a0 ≥ (-1) then (some (decide (a0 ≤ 1))) else (some false)) else (some false)
set_option maxHeartbeats 8000000 in
set_option maxRecDepth 100000 in
theorem laws_turned.calls (a0 : Int) (a1 : Int) (r : Bool) (w : World) (h : laws_turned.f a0 a1 = some r) :
    Calls Tryd.prog 35 #[.int .i64 a0, .int .i64 a1] w fun e w' => e = .returned (.bool r) ∧ Drawn0 w w' := by
  have H : (if a0 = (wrap64 (-a1)) then (if a0 ≥ (-1) then (some (decide (a0 ≤ 1))) else (some false)) else (some false)) = some r := h
  clear h
  by_cases c3 : a0 = (wrap64 (-a1))
  · rw [if_pos c3] at H
    have c3b0 : (a0 == (wrap64 (-a1))) = true := beq_iff_eq.mpr c3
    have c3b1 : (a0 != (wrap64 (-a1))) = false := bne_eq_false_iff_eq.mpr c3
    clear c3
    by_cases c4 : a0 ≥ (-1)
    · rw [if_pos c4] at H
      have c4b0 : decide ((-1) ≤ a0) = true := decide_eq_true c4
      clear c4
      obtain rfl := Option.some.inj H
      go_enter Tryd.func35, Tryd.ntmps35
      go_wp2
      go_ret
      exact ⟨by first | rfl | (simp; done) | (simp [*]; done) | (simp [bne_nil_]; done), by repeat (first | exact Drawn0.refl _ | apply Drawn0.step)⟩
    · rw [if_neg c4] at H
      have c4b0 : decide ((-1) ≤ a0) = false := decide_eq_false c4
      clear c4
      obtain rfl := Option.some.inj H
      go_enter Tryd.func35, Tryd.ntmps35
      go_wp2
      go_ret
      exact ⟨by first | rfl | (simp; done) | (simp [*]; done) | (simp [bne_nil_]; done), by repeat (first | exact Drawn0.refl _ | apply Drawn0.step)⟩
  · rw [if_neg c3] at H
    have c3b0 : (a0 == (wrap64 (-a1))) = false := beq_eq_false_iff_ne.mpr c3
    have c3b1 : (a0 != (wrap64 (-a1))) = true := bne_iff_ne.mpr c3
    obtain rfl := Option.some.inj H
    go_enter Tryd.func35, Tryd.ntmps35
    go_wp2
    go_ret
    exact ⟨by first | rfl | (simp; done) | (simp [*]; done) | (simp [bne_nil_]; done), by repeat (first | exact Drawn0.refl _ | apply Drawn0.step)⟩

set_option maxHeartbeats 1000000 in
theorem spec_PyPIKnown_at (k : Nat) (A : Option Addr) (c : Nat) (l : List ByteArray) (r : Bool) (w : World) (hr : Kd.C Kd.string w A l.length l) (hc : l.length ≤ c) (h : spec_PyPIKnown.f k false (⟨#[]⟩ : ByteArray) ([] : List (S43)) false (⟨#[]⟩ : ByteArray) false (⟨#[]⟩ : ByteArray) false (⟨#[]⟩ : ByteArray) false (⟨#[]⟩ : ByteArray) false (⟨#[]⟩ : ByteArray) false (⟨#[]⟩ : ByteArray) l ([] : List ByteArray) = some r) :
    Calls Tryd.prog 32 #[.agg #[.bool false, .string ⟨#[]⟩, .slice none 0 0, .bool false, .string ⟨#[]⟩, .bool false, .string ⟨#[]⟩, .bool false, .string ⟨#[]⟩, .bool false, .string ⟨#[]⟩, .bool false, .string ⟨#[]⟩, .bool false, .string ⟨#[]⟩, .slice A l.length c, .slice none 0 0]] w fun e w' => e = .returned (.bool r) ∧ Below w.heap.size w w' :=
  spec_PyPIKnown.calls k false (⟨#[]⟩ : ByteArray) none 0 ([] : List (S43)) false (⟨#[]⟩ : ByteArray) false (⟨#[]⟩ : ByteArray) false (⟨#[]⟩ : ByteArray) false (⟨#[]⟩ : ByteArray) false (⟨#[]⟩ : ByteArray) false (⟨#[]⟩ : ByteArray) A c l none 0 ([] : List ByteArray) r w (Kd.C_nil _ _) (Nat.le_refl _) hr hc (Kd.C_nil _ _) (Nat.le_refl _) h
/-! ### laws_FnPyPILocal: function 6 -/
mutual
def laws_FnPyPILocal.j0 : Nat → List ByteArray → List ByteArray → Bool → Option (Bool)
  | 0, _, _, _ => none
  | k + 1, x0, x1, x13 => if x13 = true then (some true) else ((laws_short.f k x0).bind fun t144 => (if t144 = true then ((laws_short.f k x1).bind fun t145 => (if t145 = true then ((spec_PyPIKnown.f k false (⟨#[]⟩ : ByteArray) ([] : List (S43)) false (⟨#[]⟩ : ByteArray) false (⟨#[]⟩ : ByteArray) false (⟨#[]⟩ : ByteArray) false (⟨#[]⟩ : ByteArray) false (⟨#[]⟩ : ByteArray) false (⟨#[]⟩ : ByteArray) x0 ([] : List ByteArray)).bind fun t146 => (if t146 = true then ((spec_PyPIKnown.f k false (⟨#[]⟩ : ByteArray) ([] : List (S43)) false (⟨#[]⟩ : ByteArray) false (⟨#[]⟩ : ByteArray) false (⟨#[]⟩ : ByteArray) false (⟨#[]⟩ : ByteArray) false (⟨#[]⟩ : ByteArray) false (⟨#[]⟩ : ByteArray) x1 ([] : List ByteArray)).bind fun t147 => (laws_FnPyPILocal.j1 k x0 x1 (!t147))) else (laws_FnPyPILocal.j1 k x0 x1 true))) else (laws_FnPyPILocal.j1 k x0 x1 true))) else (laws_FnPyPILocal.j1 k x0 x1 true)))
def laws_FnPyPILocal.j1 : Nat → List ByteArray → List ByteArray → Bool → Option (Bool)
  | 0, _, _, _ => none
  | k + 1, x0, x1, x33 => if x33 = true then (some true) else ((Giv.impl_PyPILocal.f x0 x1).bind fun t148 => ((spec_PyPILocal.f k x0 x1).bind fun t149 => (if t148 = t149 then ((Giv.impl_PyPILocal.f x1 x0).bind fun t150 => ((laws_turned.f t148 t150).bind fun t151 => (some t151))) else (some false))))
end
def laws_FnPyPILocal.f (k : Nat) (l0 : List ByteArray) (l1 : List ByteArray) : Option (Bool) := (laws_zzFits1.f k l0).bind fun t142 => (if t142 = true then ((laws_zzFits1.f k l1).bind fun t143 => (laws_FnPyPILocal.j0 k l0 l1 (!t143))) else (laws_FnPyPILocal.j0 k l0 l1 true))
theorem laws_FnPyPILocal.mono_l : ∀ k, (∀ y0 y1 y2, LeO (laws_FnPyPILocal.j0 k y0 y1 y2) (laws_FnPyPILocal.j0 (k + 1) y0 y1 y2)) ∧ (∀ y0 y1 y2, LeO (laws_FnPyPILocal.j1 k y0 y1 y2) (laws_FnPyPILocal.j1 (k + 1) y0 y1 y2))
  | 0 => ⟨fun _ _ _ r h => by simp [laws_FnPyPILocal.j0] at h, fun _ _ _ r h => by simp [laws_FnPyPILocal.j1] at h⟩
  | k + 1 => by
    obtain ⟨ih0, ih1⟩ := laws_FnPyPILocal.mono_l k
    refine ⟨?_, ?_⟩
    · intro y0 y1 y2
      unfold laws_FnPyPILocal.j0
      repeat' first
      | (with_reducible exact ih0 _ _ _)
      | (with_reducible exact ih1 _ _ _)
      | (with_reducible exact laws_short.mono _ _)
      | (with_reducible exact laws_zzFits1.mono _ _)
      | (with_reducible exact spec_PyPIKnown.mono _ _ _ _ _ _ _ _ _ _ _ _ _ _ _ _ _ _)
      | (with_reducible exact spec_PyPILocal.mono _ _ _)
      | (with_reducible exact LeO.refl _)
      | (with_reducible exact LeO.none _)
      | (with_reducible refine LeO.ite ?_ ?_)
      | (with_reducible refine LeO.bind ?_ (fun _ => ?_))
      | exact ih0 _ _ _
      | exact ih1 _ _ _
      | exact laws_short.mono _ _
      | exact laws_zzFits1.mono _ _
      | exact spec_PyPIKnown.mono _ _ _ _ _ _ _ _ _ _ _ _ _ _ _ _ _ _
      | exact spec_PyPILocal.mono _ _ _
      | exact LeO.none _
      | refine LeO.ite ?_ ?_
      | refine LeO.bind ?_ (fun _ => ?_)
    · intro y0 y1 y2
      unfold laws_FnPyPILocal.j1
      repeat' first
      | (with_reducible exact ih0 _ _ _)
      | (with_reducible exact ih1 _ _ _)
      | (with_reducible exact laws_short.mono _ _)
      | (with_reducible exact laws_zzFits1.mono _ _)
      | (with_reducible exact spec_PyPIKnown.mono _ _ _ _ _ _ _ _ _ _ _ _ _ _ _ _ _ _)
      | (with_reducible exact spec_PyPILocal.mono _ _ _)
      | (with_reducible exact LeO.refl _)
      | (with_reducible exact LeO.none _)
      | (with_reducible refine LeO.ite ?_ ?_)
      | (with_reducible refine LeO.bind ?_ (fun _ => ?_))
      | exact ih0 _ _ _
      | exact ih1 _ _ _
      | exact laws_short.mono _ _
      | exact laws_zzFits1.mono _ _
      | exact spec_PyPIKnown.mono _ _ _ _ _ _ _ _ _ _ _ _ _ _ _ _ _ _
      | exact spec_PyPILocal.mono _ _ _
      | exact LeO.none _
      | refine LeO.ite ?_ ?_
      | refine LeO.bind ?_ (fun _ => ?_)
theorem laws_FnPyPILocal.mono : ∀ a0 a1 k, LeO (laws_FnPyPILocal.f k a0 a1) (laws_FnPyPILocal.f (k + 1) a0 a1) := by
  intro a0 a1 k
  obtain ⟨ih0, ih1⟩ := laws_FnPyPILocal.mono_l k
  unfold laws_FnPyPILocal.f
  repeat' first
      | (with_reducible exact ih0 _ _ _)
      | (with_reducible exact ih1 _ _ _)
      | (with_reducible exact laws_short.mono _ _)
      | (with_reducible exact laws_zzFits1.mono _ _)
      | (with_reducible exact spec_PyPIKnown.mono _ _ _ _ _ _ _ _ _ _ _ _ _ _ _ _ _ _)
      | (with_reducible exact spec_PyPILocal.mono _ _ _)
      | (with_reducible exact LeO.refl _)
      | (with_reducible exact LeO.none _)
      | (with_reducible refine LeO.ite ?_ ?_)
      | (with_reducible refine LeO.bind ?_ (fun _ => ?_))
      | exact ih0 _ _ _
      | exact ih1 _ _ _
      | exact laws_short.mono _ _
      | exact laws_zzFits1.mono _ _
      | exact spec_PyPIKnown.mono _ _ _ _ _ _ _ _ _ _ _ _ _ _ _ _ _ _
      | exact spec_PyPILocal.mono _ _ _
      | exact LeO.none _
      | refine LeO.ite ?_ ?_
      | refine LeO.bind ?_ (fun _ => ?_)
set_option maxHeartbeats 8000000 in
set_option maxRecDepth 100000 in
theorem laws_FnPyPILocal.calls (k : Nat) (A0 : Option Addr) (c0 : Nat) (l0 : List ByteArray) (A1 : Option Addr) (c1 : Nat) (l1 : List ByteArray) (r : Bool) (w : World) (hr0 : Kd.C Kd.string w A0 l0.length l0) (hc0 : l0.length ≤ c0) (hr1 : Kd.C Kd.string w A1 l1.length l1) (hc1 : l1.length ≤ c1) (h : laws_FnPyPILocal.f k l0 l1 = some r) (hL : Giv.Laid w) :
    Calls Tryd.prog 6 #[.slice A0 l0.length c0, .slice A1 l1.length c1] w fun e w' => e = .returned (.bool r) ∧ Below w.heap.size w w' := by
  have HLd := Aside0.mk hL
  clear hL
  have hu48 := Tryd.underlying48
  have HR0 := Aside0.mk hr0
  have HC0 := Aside0.mk hc0
  clear hr0 hc0
  have HR1 := Aside0.mk hr1
  have HC1 := Aside0.mk hc1
  clear hr1 hc1
  have HB := Aside0.mk (Below.refl w.heap.size w)
  have H : ((laws_zzFits1.f k l0).bind fun t142 => (if t142 = true then ((laws_zzFits1.f k l1).bind fun t143 => (laws_FnPyPILocal.j0 k l0 l1 (!t143))) else (laws_FnPyPILocal.j0 k l0 l1 true))) = some r := h
  clear h
  have HC3 := Aside0.mk H
  clear H
  go_enter Tryd.func6, Tryd.ntmps6
  go_upto_region 1 with (fail)
  go_cut [13] (fun v13 wc => ∃ (kq : Nat) (x13_2 : Bool), v13 = .bool x13_2 ∧ Aside0 (laws_FnPyPILocal.j0 kq l0 l1 x13_2 = some r) ∧ Aside0 (kq ≤ k) ∧ Aside0 (Below w.heap.size w wc))
  case first =>
    have H := HC3.out
    clear HC3
    replace H := Option.bind_eq_some_iff.mp H
    obtain ⟨t142, A40, H⟩ := H
    replace H : (if t142 = true then ((laws_zzFits1.f k l1).bind fun t143 => (laws_FnPyPILocal.j0 k l0 l1 (!t143))) else (laws_FnPyPILocal.j0 k l0 l1 true)) = some r := H
    have A4 := Aside0.mk A40
    clear A40
    by_cases c5 : t142 = true
    · subst c5
      have H1 : ((laws_zzFits1.f k l1).bind fun t143 => (laws_FnPyPILocal.j0 k l0 l1 (!t143))) = some r := by rw [if_pos rfl] at H; exact H
      clear H
      have H := H1
      clear H1
      replace H := Option.bind_eq_some_iff.mp H
      obtain ⟨t143, A60, H⟩ := H
      replace H : (laws_FnPyPILocal.j0 k l0 l1 (!t143)) = some r := H
      have A6 := Aside0.mk A60
      clear A60
      have H' := Aside0.mk H
      clear H
      go_wp2_with (first | ((with_reducible refine gate_callee (f := 31) rfl ?_); refine goesL_ (some 7) rfl rfl Tryd.func31 (by kernel_rfl) rfl #[.slice A0 l0.length c0] rfl (by (try simp only [List.map_toArray, List.map_cons, List.map_nil]); first | done | rfl | (simp only [List.length_drop, List.length_take]; rfl)) ?_; (with_reducible refine (laws_zzFits1.calls k _ _ l0 true _ ?side1 ?side2 A4.out).mono ?_); (case side1 => repeat (first | exact (Kd.C_below HR0.out HB.out) | (with_reducible refine Kd.C_alloc ?_ _) | (with_reducible refine Kd.C_drewN ?_ _) | (with_reducible refine Kd.C_drew ?_))); (case side2 => exact HC0.out); rintro e w' ⟨rfl, ⟨nd, rfl⟩⟩; refine ⟨_, rfl, ?_⟩) | (go_at_call 31; (with_reducible refine (laws_zzFits1.calls k _ _ l1 t143 _ ?side1 ?side2 A6.out).mono ?_); (case side1 => repeat (first | exact (Kd.C_below HR1.out (by repeat (first | (with_reducible first | exact HB.out | apply below_alloc | apply pw_below_drewN | apply below_drew1) | exact HB.out))) | (with_reducible refine Kd.C_alloc ?_ _) | (with_reducible refine Kd.C_drewN ?_ _) | (with_reducible refine Kd.C_drew ?_))); (case side2 => exact HC1.out); rintro e w' ⟨rfl, ⟨nd, rfl⟩⟩))
      go_meet
      case rel => exact ⟨_, (!t143), (by first | rfl | (simp; done) | (simp [*]; done) | (simp [bne_nil_]; done)), H', ⟨by first | omega | exact Nat.le_refl _⟩, ⟨by repeat (first | (with_reducible first | exact HB.out | apply below_alloc | apply pw_below_drewN | apply below_drew1) | exact HB.out)⟩⟩
    · replace c5 := Bool.eq_false_iff.mpr c5
      subst c5
      have H1 : (laws_FnPyPILocal.j0 k l0 l1 true) = some r := by rw [if_neg (show ¬ (false = true) by decide)] at H; exact H
      clear H
      have H := H1
      clear H1
      have H' := Aside0.mk H
      clear H
      go_wp2_with (first | ((with_reducible refine gate_callee (f := 31) rfl ?_); refine goesL_ (some 7) rfl rfl Tryd.func31 (by kernel_rfl) rfl #[.slice A0 l0.length c0] rfl (by (try simp only [List.map_toArray, List.map_cons, List.map_nil]); first | done | rfl | (simp only [List.length_drop, List.length_take]; rfl)) ?_; (with_reducible refine (laws_zzFits1.calls k _ _ l0 false _ ?side1 ?side2 A4.out).mono ?_); (case side1 => repeat (first | exact (Kd.C_below HR0.out HB.out) | (with_reducible refine Kd.C_alloc ?_ _) | (with_reducible refine Kd.C_drewN ?_ _) | (with_reducible refine Kd.C_drew ?_))); (case side2 => exact HC0.out); rintro e w' ⟨rfl, ⟨nd, rfl⟩⟩; refine ⟨_, rfl, ?_⟩))
      go_meet
      case rel => exact ⟨_, (true), (by first | rfl | (simp; done) | (simp [*]; done) | (simp [bne_nil_]; done)), H', ⟨by first | omega | exact Nat.le_refl _⟩, ⟨by repeat (first | (with_reducible first | exact HB.out | apply below_alloc | apply pw_below_drewN | apply below_drew1) | exact HB.out)⟩⟩
  case rest =>
    clear HC3
    try clear c1
    try clear p2
    try clear c3
    try clear c5
    try clear c6
    obtain ⟨kq, x13_2, rfl, HA, HJ2, HB⟩ := hcut
    cases kq with
    | zero => exact absurd HA.out (by simp [laws_FnPyPILocal.j0])
    | succ kj2 =>
      have H := HA.out
      clear HA
      simp only [laws_FnPyPILocal.j0] at H
      by_cases c7 : x13_2 = true
      · subst c7
        have H1 : (some true) = some r := by rw [if_pos rfl] at H; exact H
        clear H
        have H := H1
        clear H1
        obtain rfl := Option.some.inj H
        go_wp2
        go_ret
        exact ⟨by first | rfl | (simp [errW_none, errW_some] <;> rfl) | (simp [*, errW_none, errW_some] <;> rfl) | (simp [bne_nil_]; done), by repeat (first | (with_reducible first | exact HB.out | apply below_alloc | apply pw_below_drewN | apply below_drew1) | exact HB.out)⟩
      · replace c7 := Bool.eq_false_iff.mpr c7
        subst c7
        have H1 : ((laws_short.f kj2 l0).bind fun t144 => (if t144 = true then ((laws_short.f kj2 l1).bind fun t145 => (if t145 = true then ((spec_PyPIKnown.f kj2 false (⟨#[]⟩ : ByteArray) ([] : List (S43)) false (⟨#[]⟩ : ByteArray) false (⟨#[]⟩ : ByteArray) false (⟨#[]⟩ : ByteArray) false (⟨#[]⟩ : ByteArray) false (⟨#[]⟩ : ByteArray) false (⟨#[]⟩ : ByteArray) l0 ([] : List ByteArray)).bind fun t146 => (if t146 = true then ((spec_PyPIKnown.f kj2 false (⟨#[]⟩ : ByteArray) ([] : List (S43)) false (⟨#[]⟩ : ByteArray) false (⟨#[]⟩ : ByteArray) false (⟨#[]⟩ : ByteArray) false (⟨#[]⟩ : ByteArray) false (⟨#[]⟩ : ByteArray) false (⟨#[]⟩ : ByteArray) l1 ([] : List ByteArray)).bind fun t147 => (laws_FnPyPILocal.j1 kj2 l0 l1 (!t147))) else (laws_FnPyPILocal.j1 kj2 l0 l1 true))) else (laws_FnPyPILocal.j1 kj2 l0 l1 true))) else (laws_FnPyPILocal.j1 kj2 l0 l1 true))) = some r := by rw [if_neg (show ¬ (false = true) by decide)] at H; exact H
        clear H
        have H := H1
        clear H1
        have HC8 := Aside0.mk H
        clear H
        go_upto_region 3 with (fail)
        go_cut [33] (fun v33 wc => ∃ (kq : Nat) (x33_7 : Bool), v33 = .bool x33_7 ∧ Aside0 (laws_FnPyPILocal.j1 kq l0 l1 x33_7 = some r) ∧ Aside0 (kq ≤ kj2) ∧ Aside0 (Below w.heap.size w wc))
        case first =>
          have H := HC8.out
          clear HC8
          replace H := Option.bind_eq_some_iff.mp H
          obtain ⟨t144, A90, H⟩ := H
          replace H : (if t144 = true then ((laws_short.f kj2 l1).bind fun t145 => (if t145 = true then ((spec_PyPIKnown.f kj2 false (⟨#[]⟩ : ByteArray) ([] : List (S43)) false (⟨#[]⟩ : ByteArray) false (⟨#[]⟩ : ByteArray) false (⟨#[]⟩ : ByteArray) false (⟨#[]⟩ : ByteArray) false (⟨#[]⟩ : ByteArray) false (⟨#[]⟩ : ByteArray) l0 ([] : List ByteArray)).bind fun t146 => (if t146 = true then ((spec_PyPIKnown.f kj2 false (⟨#[]⟩ : ByteArray) ([] : List (S43)) false (⟨#[]⟩ : ByteArray) false (⟨#[]⟩ : ByteArray) false (⟨#[]⟩ : ByteArray) false (⟨#[]⟩ : ByteArray) false (⟨#[]⟩ : ByteArray) false (⟨#[]⟩ : ByteArray) l1 ([] : List ByteArray)).bind fun t147 => (laws_FnPyPILocal.j1 kj2 l0 l1 (!t147))) else (laws_FnPyPILocal.j1 kj2 l0 l1 true))) else (laws_FnPyPILocal.j1 kj2 l0 l1 true))) else (laws_FnPyPILocal.j1 kj2 l0 l1 true)) = some r := H
          have A9 := Aside0.mk A90
          clear A90
          by_cases c10 : t144 = true
          · subst c10
            have H1 : ((laws_short.f kj2 l1).bind fun t145 => (if t145 = true then ((spec_PyPIKnown.f kj2 false (⟨#[]⟩ : ByteArray) ([] : List (S43)) false (⟨#[]⟩ : ByteArray) false (⟨#[]⟩ : ByteArray) false (⟨#[]⟩ : ByteArray) false (⟨#[]⟩ : ByteArray) false (⟨#[]⟩ : ByteArray) false (⟨#[]⟩ : ByteArray) l0 ([] : List ByteArray)).bind fun t146 => (if t146 = true then ((spec_PyPIKnown.f kj2 false (⟨#[]⟩ : ByteArray) ([] : List (S43)) false (⟨#[]⟩ : ByteArray) false (⟨#[]⟩ : ByteArray) false (⟨#[]⟩ : ByteArray) false (⟨#[]⟩ : ByteArray) false (⟨#[]⟩ : ByteArray) false (⟨#[]⟩ : ByteArray) l1 ([] : List ByteArray)).bind fun t147 => (laws_FnPyPILocal.j1 kj2 l0 l1 (!t147))) else (laws_FnPyPILocal.j1 kj2 l0 l1 true))) else (laws_FnPyPILocal.j1 kj2 l0 l1 true))) = some r := by rw [if_pos rfl] at H; exact H
            clear H
            have H := H1
            clear H1
            replace H := Option.bind_eq_some_iff.mp H
            obtain ⟨t145, A110, H⟩ := H
            replace H : (if t145 = true then ((spec_PyPIKnown.f kj2 false (⟨#[]⟩ : ByteArray) ([] : List (S43)) false (⟨#[]⟩ : ByteArray) false (⟨#[]⟩ : ByteArray) false (⟨#[]⟩ : ByteArray) false (⟨#[]⟩ : ByteArray) false (⟨#[]⟩ : ByteArray) false (⟨#[]⟩ : ByteArray) l0 ([] : List ByteArray)).bind fun t146 => (if t146 = true then ((spec_PyPIKnown.f kj2 false (⟨#[]⟩ : ByteArray) ([] : List (S43)) false (⟨#[]⟩ : ByteArray) false (⟨#[]⟩ : ByteArray) false (⟨#[]⟩ : ByteArray) false (⟨#[]⟩ : ByteArray) false (⟨#[]⟩ : ByteArray) false (⟨#[]⟩ : ByteArray) l1 ([] : List ByteArray)).bind fun t147 => (laws_FnPyPILocal.j1 kj2 l0 l1 (!t147))) else (laws_FnPyPILocal.j1 kj2 l0 l1 true))) else (laws_FnPyPILocal.j1 kj2 l0 l1 true)) = some r := H
            have A11 := Aside0.mk A110
            clear A110
            by_cases c12 : t145 = true
            · subst c12
              have H1 : ((spec_PyPIKnown.f kj2 false (⟨#[]⟩ : ByteArray) ([] : List (S43)) false (⟨#[]⟩ : ByteArray) false (⟨#[]⟩ : ByteArray) false (⟨#[]⟩ : ByteArray) false (⟨#[]⟩ : ByteArray) false (⟨#[]⟩ : ByteArray) false (⟨#[]⟩ : ByteArray) l0 ([] : List ByteArray)).bind fun t146 => (if t146 = true then ((spec_PyPIKnown.f kj2 false (⟨#[]⟩ : ByteArray) ([] : List (S43)) false (⟨#[]⟩ : ByteArray) false (⟨#[]⟩ : ByteArray) false (⟨#[]⟩ : ByteArray) false (⟨#[]⟩ : ByteArray) false (⟨#[]⟩ : ByteArray) false (⟨#[]⟩ : ByteArray) l1 ([] : List ByteArray)).bind fun t147 => (laws_FnPyPILocal.j1 kj2 l0 l1 (!t147))) else (laws_FnPyPILocal.j1 kj2 l0 l1 true))) = some r := by rw [if_pos rfl] at H; exact H
              clear H
              have H := H1
              clear H1
              replace H := Option.bind_eq_some_iff.mp H
              obtain ⟨t146, A130, H⟩ := H
              replace H : (if t146 = true then ((spec_PyPIKnown.f kj2 false (⟨#[]⟩ : ByteArray) ([] : List (S43)) false (⟨#[]⟩ : ByteArray) false (⟨#[]⟩ : ByteArray) false (⟨#[]⟩ : ByteArray) false (⟨#[]⟩ : ByteArray) false (⟨#[]⟩ : ByteArray) false (⟨#[]⟩ : ByteArray) l1 ([] : List ByteArray)).bind fun t147 => (laws_FnPyPILocal.j1 kj2 l0 l1 (!t147))) else (laws_FnPyPILocal.j1 kj2 l0 l1 true)) = some r := H
              have A13 := Aside0.mk A130
              clear A130
              by_cases c14 : t146 = true
              · subst c14
                have H1 : ((spec_PyPIKnown.f kj2 false (⟨#[]⟩ : ByteArray) ([] : List (S43)) false (⟨#[]⟩ : ByteArray) false (⟨#[]⟩ : ByteArray) false (⟨#[]⟩ : ByteArray) false (⟨#[]⟩ : ByteArray) false (⟨#[]⟩ : ByteArray) false (⟨#[]⟩ : ByteArray) l1 ([] : List ByteArray)).bind fun t147 => (laws_FnPyPILocal.j1 kj2 l0 l1 (!t147))) = some r := by rw [if_pos rfl] at H; exact H
                clear H
                have H := H1
                clear H1
                replace H := Option.bind_eq_some_iff.mp H
                obtain ⟨t147, A150, H⟩ := H
                replace H : (laws_FnPyPILocal.j1 kj2 l0 l1 (!t147)) = some r := H
                have A15 := Aside0.mk A150
                clear A150
                have H' := Aside0.mk H
                clear H
                go_wp2_with (first | ((with_reducible refine gate_callee (f := 15) rfl ?_); refine goesL_ (some 15) rfl rfl Tryd.func15 (by kernel_rfl) rfl #[.slice A0 l0.length c0] rfl (by (try simp only [List.map_toArray, List.map_cons, List.map_nil]); first | done | rfl | (simp only [List.length_drop, List.length_take]; rfl)) ?_; (with_reducible refine (laws_short.calls kj2 _ _ l0 true _ ?side1 ?side2 A9.out).mono ?_); (case side1 => repeat (first | exact (Kd.C_below HR0.out HB.out) | (with_reducible refine Kd.C_alloc ?_ _) | (with_reducible refine Kd.C_drewN ?_ _) | (with_reducible refine Kd.C_drew ?_))); (case side2 => exact HC0.out); rintro e w' ⟨rfl, ⟨nd, rfl⟩⟩; refine ⟨_, rfl, ?_⟩) | (go_at_call 15; (with_reducible refine (laws_short.calls kj2 _ _ l1 true _ ?side1 ?side2 A11.out).mono ?_); (case side1 => repeat (first | exact (Kd.C_below HR1.out (by repeat (first | (with_reducible first | exact HB.out | apply below_alloc | apply pw_below_drewN | apply below_drew1) | exact HB.out))) | (with_reducible refine Kd.C_alloc ?_ _) | (with_reducible refine Kd.C_drewN ?_ _) | (with_reducible refine Kd.C_drew ?_))); (case side2 => exact HC1.out); rintro e w' ⟨rfl, ⟨nd, rfl⟩⟩) | (go_at_call 32; (with_reducible refine (spec_PyPIKnown_at kj2 _ _ l0 true _ ?side3 ?side4 A13.out).mono ?_); (case side3 => repeat (first | exact (Kd.C_below HR0.out (by repeat (first | (with_reducible first | exact HB.out | apply below_alloc | apply pw_below_drewN | apply below_drew1) | exact HB.out))) | (with_reducible refine Kd.C_alloc ?_ _) | (with_reducible refine Kd.C_drewN ?_ _) | (with_reducible refine Kd.C_drew ?_))); (case side4 => exact HC0.out); rintro e w16 ⟨rfl, hb⟩; have n0_ := Aside0.mk (below_step (by repeat (first | (with_reducible first | exact HB.out | apply below_alloc | apply pw_below_drewN | apply below_drew1) | exact HB.out)) hb); clear HB; have HB := n0_; clear n0_; (try clear hb); (try clear hb2); (try clear hk); (try clear hi)) | (go_at_call 32; (with_reducible refine (spec_PyPIKnown_at kj2 _ _ l1 t147 _ ?side3 ?side4 A15.out).mono ?_); (case side3 => repeat (first | exact (Kd.C_below HR1.out HB.out) | (with_reducible refine Kd.C_alloc ?_ _) | (with_reducible refine Kd.C_drewN ?_ _) | (with_reducible refine Kd.C_drew ?_))); (case side4 => exact HC1.out); rintro e w17 ⟨rfl, hb⟩; have n0_ := Aside0.mk (below_step (by repeat (first | (with_reducible first | exact HB.out | apply below_alloc | apply pw_below_drewN | apply below_drew1) | exact HB.out)) hb); clear HB; have HB := n0_; clear n0_; (try clear hb); (try clear hb2); (try clear hk); (try clear hi)))
                go_meet
                case rel => exact ⟨_, (!t147), (by first | rfl | (simp; done) | (simp [*]; done) | (simp [bne_nil_]; done)), H', ⟨by have := HJ2.out; first | omega | exact Nat.le_refl _⟩, ⟨by repeat (first | (with_reducible first | exact HB.out | apply below_alloc | apply pw_below_drewN | apply below_drew1) | exact HB.out)⟩⟩
              · replace c14 := Bool.eq_false_iff.mpr c14
                subst c14
                have H1 : (laws_FnPyPILocal.j1 kj2 l0 l1 true) = some r := by rw [if_neg (show ¬ (false = true) by decide)] at H; exact H
                clear H
                have H := H1
                clear H1
                have H' := Aside0.mk H
                clear H
                go_wp2_with (first | ((with_reducible refine gate_callee (f := 15) rfl ?_); refine goesL_ (some 15) rfl rfl Tryd.func15 (by kernel_rfl) rfl #[.slice A0 l0.length c0] rfl (by (try simp only [List.map_toArray, List.map_cons, List.map_nil]); first | done | rfl | (simp only [List.length_drop, List.length_take]; rfl)) ?_; (with_reducible refine (laws_short.calls kj2 _ _ l0 true _ ?side1 ?side2 A9.out).mono ?_); (case side1 => repeat (first | exact (Kd.C_below HR0.out HB.out) | (with_reducible refine Kd.C_alloc ?_ _) | (with_reducible refine Kd.C_drewN ?_ _) | (with_reducible refine Kd.C_drew ?_))); (case side2 => exact HC0.out); rintro e w' ⟨rfl, ⟨nd, rfl⟩⟩; refine ⟨_, rfl, ?_⟩) | (go_at_call 15; (with_reducible refine (laws_short.calls kj2 _ _ l1 true _ ?side1 ?side2 A11.out).mono ?_); (case side1 => repeat (first | exact (Kd.C_below HR1.out (by repeat (first | (with_reducible first | exact HB.out | apply below_alloc | apply pw_below_drewN | apply below_drew1) | exact HB.out))) | (with_reducible refine Kd.C_alloc ?_ _) | (with_reducible refine Kd.C_drewN ?_ _) | (with_reducible refine Kd.C_drew ?_))); (case side2 => exact HC1.out); rintro e w' ⟨rfl, ⟨nd, rfl⟩⟩) | (go_at_call 32; (with_reducible refine (spec_PyPIKnown_at kj2 _ _ l0 false _ ?side3 ?side4 A13.out).mono ?_); (case side3 => repeat (first | exact (Kd.C_below HR0.out (by repeat (first | (with_reducible first | exact HB.out | apply below_alloc | apply pw_below_drewN | apply below_drew1) | exact HB.out))) | (with_reducible refine Kd.C_alloc ?_ _) | (with_reducible refine Kd.C_drewN ?_ _) | (with_reducible refine Kd.C_drew ?_))); (case side4 => exact HC0.out); rintro e w18 ⟨rfl, hb⟩; have n0_ := Aside0.mk (below_step (by repeat (first | (with_reducible first | exact HB.out | apply below_alloc | apply pw_below_drewN | apply below_drew1) | exact HB.out)) hb); clear HB; have HB := n0_; clear n0_; (try clear hb); (try clear hb2); (try clear hk); (try clear hi)))
                go_meet
                case rel => exact ⟨_, (true), (by first | rfl | (simp; done) | (simp [*]; done) | (simp [bne_nil_]; done)), H', ⟨by have := HJ2.out; first | omega | exact Nat.le_refl _⟩, ⟨by repeat (first | (with_reducible first | exact HB.out | apply below_alloc | apply pw_below_drewN | apply below_drew1) | exact HB.out)⟩⟩
            · replace c12 := Bool.eq_false_iff.mpr c12
              subst c12
              have H1 : (laws_FnPyPILocal.j1 kj2 l0 l1 true) = some r := by rw [if_neg (show ¬ (false = true) by decide)] at H; exact H
              clear H
              have H := H1
              clear H1
              have H' := Aside0.mk H
              clear H
              go_wp2_with (first | ((with_reducible refine gate_callee (f := 15) rfl ?_); refine goesL_ (some 15) rfl rfl Tryd.func15 (by kernel_rfl) rfl #[.slice A0 l0.length c0] rfl (by (try simp only [List.map_toArray, List.map_cons, List.map_nil]); first | done | rfl | (simp only [List.length_drop, List.length_take]; rfl)) ?_; (with_reducible refine (laws_short.calls kj2 _ _ l0 true _ ?side1 ?side2 A9.out).mono ?_); (case side1 => repeat (first | exact (Kd.C_below HR0.out HB.out) | (with_reducible refine Kd.C_alloc ?_ _) | (with_reducible refine Kd.C_drewN ?_ _) | (with_reducible refine Kd.C_drew ?_))); (case side2 => exact HC0.out); rintro e w' ⟨rfl, ⟨nd, rfl⟩⟩; refine ⟨_, rfl, ?_⟩) | (go_at_call 15; (with_reducible refine (laws_short.calls kj2 _ _ l1 false _ ?side1 ?side2 A11.out).mono ?_); (case side1 => repeat (first | exact (Kd.C_below HR1.out (by repeat (first | (with_reducible first | exact HB.out | apply below_alloc | apply pw_below_drewN | apply below_drew1) | exact HB.out))) | (with_reducible refine Kd.C_alloc ?_ _) | (with_reducible refine Kd.C_drewN ?_ _) | (with_reducible refine Kd.C_drew ?_))); (case side2 => exact HC1.out); rintro e w' ⟨rfl, ⟨nd, rfl⟩⟩))
              go_meet
              case rel => exact ⟨_, (true), (by first | rfl | (simp; done) | (simp [*]; done) | (simp [bne_nil_]; done)), H', ⟨by have := HJ2.out; first | omega | exact Nat.le_refl _⟩, ⟨by repeat (first | (with_reducible first | exact HB.out | apply below_alloc | apply pw_below_drewN | apply below_drew1) | exact HB.out)⟩⟩
          · replace c10 := Bool.eq_false_iff.mpr c10
            subst c10
            have H1 : (laws_FnPyPILocal.j1 kj2 l0 l1 true) = some r := by rw [if_neg (show ¬ (false = true) by decide)] at H; exact H
            clear H
            have H := H1
            clear H1
            have H' := Aside0.mk H
            clear H
            go_wp2_with (first | ((with_reducible refine gate_callee (f := 15) rfl ?_); refine goesL_ (some 15) rfl rfl Tryd.func15 (by kernel_rfl) rfl #[.slice A0 l0.length c0] rfl (by (try simp only [List.map_toArray, List.map_cons, List.map_nil]); first | done | rfl | (simp only [List.length_drop, List.length_take]; rfl)) ?_; (with_reducible refine (laws_short.calls kj2 _ _ l0 false _ ?side1 ?side2 A9.out).mono ?_); (case side1 => repeat (first | exact (Kd.C_below HR0.out HB.out) | (with_reducible refine Kd.C_alloc ?_ _) | (with_reducible refine Kd.C_drewN ?_ _) | (with_reducible refine Kd.C_drew ?_))); (case side2 => exact HC0.out); rintro e w' ⟨rfl, ⟨nd, rfl⟩⟩; refine ⟨_, rfl, ?_⟩))
            go_meet
            case rel => exact ⟨_, (true), (by first | rfl | (simp; done) | (simp [*]; done) | (simp [bne_nil_]; done)), H', ⟨by have := HJ2.out; first | omega | exact Nat.le_refl _⟩, ⟨by repeat (first | (with_reducible first | exact HB.out | apply below_alloc | apply pw_below_drewN | apply below_drew1) | exact HB.out)⟩⟩
        case rest =>
          clear HC8
          try clear c1
          try clear p2
          try clear c3
          try clear c5
          try clear c6
          try clear c7
          try clear c10
          try clear c12
          try clear c14
          try clear c15
          try clear p2
          obtain ⟨kq, x33_7, rfl, HA, HJ7, HB⟩ := hcut
          cases kq with
          | zero => exact absurd HA.out (by simp [laws_FnPyPILocal.j1])
          | succ kj7 =>
            have H := HA.out
            clear HA
            simp only [laws_FnPyPILocal.j1] at H
            by_cases c19 : x33_7 = true
            · subst c19
              have H1 : (some true) = some r := by rw [if_pos rfl] at H; exact H
              clear H
              have H := H1
              clear H1
              obtain rfl := Option.some.inj H
              go_wp2
              go_ret
              exact ⟨by first | rfl | (simp [errW_none, errW_some] <;> rfl) | (simp [*, errW_none, errW_some] <;> rfl) | (simp [bne_nil_]; done), by repeat (first | (with_reducible first | exact HB.out | apply below_alloc | apply pw_below_drewN | apply below_drew1) | exact HB.out)⟩
            · replace c19 := Bool.eq_false_iff.mpr c19
              subst c19
              have H1 : ((Giv.impl_PyPILocal.f l0 l1).bind fun t148 => ((spec_PyPILocal.f kj7 l0 l1).bind fun t149 => (if t148 = t149 then ((Giv.impl_PyPILocal.f l1 l0).bind fun t150 => ((laws_turned.f t148 t150).bind fun t151 => (some t151))) else (some false)))) = some r := by rw [if_neg (show ¬ (false = true) by decide)] at H; exact H
              clear H
              have H := H1
              clear H1
              replace H := Option.bind_eq_some_iff.mp H
              obtain ⟨t148, A200, H⟩ := H
              replace H : ((spec_PyPILocal.f kj7 l0 l1).bind fun t149 => (if t148 = t149 then ((Giv.impl_PyPILocal.f l1 l0).bind fun t150 => ((laws_turned.f t148 t150).bind fun t151 => (some t151))) else (some false))) = some r := H
              have A20 := Aside0.mk A200
              clear A200
              replace H := Option.bind_eq_some_iff.mp H
              obtain ⟨t149, A210, H⟩ := H
              replace H : (if t148 = t149 then ((Giv.impl_PyPILocal.f l1 l0).bind fun t150 => ((laws_turned.f t148 t150).bind fun t151 => (some t151))) else (some false)) = some r := H
              have A21 := Aside0.mk A210
              clear A210
              by_cases c22 : t148 = t149
              · rw [if_pos c22] at H
                have c22b0 : (t148 == t149) = true := beq_iff_eq.mpr c22
                have c22b1 : (t148 != t149) = false := bne_eq_false_iff_eq.mpr c22
                clear c22
                replace H := Option.bind_eq_some_iff.mp H
                obtain ⟨t150, A230, H⟩ := H
                replace H : ((laws_turned.f t148 t150).bind fun t151 => (some t151)) = some r := H
                have A23 := Aside0.mk A230
                clear A230
                replace H := Option.bind_eq_some_iff.mp H
                obtain ⟨t151, A240, H⟩ := H
                replace H : (some t151) = some r := H
                have A24 := Aside0.mk A240
                clear A240
                obtain rfl := Option.some.inj H
                go_wp2_with (first | ((with_reducible refine gate_callee (f := 33) rfl ?_); refine goesL_ (some 36) rfl rfl Tryd.func33 (by kernel_rfl) rfl #[.slice A0 l0.length c0, .slice A1 l1.length c1] rfl (by (try simp only [List.map_toArray, List.map_cons, List.map_nil]); first | done | rfl | (simp only [List.length_drop, List.length_take]; rfl)) ?_; (with_reducible refine (Giv.impl_PyPILocal.calls _ _ l0 _ _ l1 t148 _ ?side1 ?side2 ?side3 ?side4 A20.out (HLd.out.below (by repeat (first | (with_reducible first | exact HB.out | apply below_alloc | apply pw_below_drewN | apply below_drew1) | exact HB.out)))).mono ?_); (case side1 => repeat (first | exact (Kd.C_below HR0.out HB.out) | (with_reducible refine Kd.C_alloc ?_ _) | (with_reducible refine Kd.C_drewN ?_ _) | (with_reducible refine Kd.C_drew ?_))); (case side2 => exact HC0.out); (case side3 => repeat (first | exact (Kd.C_below HR1.out HB.out) | (with_reducible refine Kd.C_alloc ?_ _) | (with_reducible refine Kd.C_drewN ?_ _) | (with_reducible refine Kd.C_drew ?_))); (case side4 => exact HC1.out); rintro e w25 ⟨rfl, hb⟩; refine ⟨_, rfl, ?_⟩; have n0_ := Aside0.mk (below_step (by repeat (first | (with_reducible first | exact HB.out | apply below_alloc | apply pw_below_drewN | apply below_drew1) | exact HB.out)) hb); clear HB; have HB := n0_; clear n0_; (try clear hb); (try clear hb2); (try clear hk); (try clear hi)) | ((with_reducible refine gate_callee (f := 34) rfl ?_); refine goesL_ (some 40) rfl rfl Tryd.func34 (by kernel_rfl) rfl #[.slice A0 l0.length c0, .slice A1 l1.length c1] rfl (by (try simp only [List.map_toArray, List.map_cons, List.map_nil]); first | done | rfl | (simp only [List.length_drop, List.length_take]; rfl)) ?_; (with_reducible refine (spec_PyPILocal.calls kj7 _ _ l0 _ _ l1 t149 _ ?side1 ?side2 ?side3 ?side4 A21.out).mono ?_); (case side1 => repeat (first | exact (Kd.C_below HR0.out HB.out) | (with_reducible refine Kd.C_alloc ?_ _) | (with_reducible refine Kd.C_drewN ?_ _) | (with_reducible refine Kd.C_drew ?_))); (case side2 => exact HC0.out); (case side3 => repeat (first | exact (Kd.C_below HR1.out HB.out) | (with_reducible refine Kd.C_alloc ?_ _) | (with_reducible refine Kd.C_drewN ?_ _) | (with_reducible refine Kd.C_drew ?_))); (case side4 => exact HC1.out); rintro e w' ⟨rfl, ⟨nd, rfl⟩⟩; refine ⟨_, rfl, ?_⟩) | (go_at_call 33; (with_reducible refine (Giv.impl_PyPILocal.calls _ _ l1 _ _ l0 t150 _ ?side1 ?side2 ?side3 ?side4 A23.out (HLd.out.below (by repeat (first | (with_reducible first | exact HB.out | apply below_alloc | apply pw_below_drewN | apply below_drew1) | exact HB.out)))).mono ?_); (case side1 => repeat (first | exact (Kd.C_below HR1.out (by repeat (first | (with_reducible first | exact HB.out | apply below_alloc | apply pw_below_drewN | apply below_drew1) | exact HB.out))) | (with_reducible refine Kd.C_alloc ?_ _) | (with_reducible refine Kd.C_drewN ?_ _) | (with_reducible refine Kd.C_drew ?_))); (case side2 => exact HC1.out); (case side3 => repeat (first | exact (Kd.C_below HR0.out (by repeat (first | (with_reducible first | exact HB.out | apply below_alloc | apply pw_below_drewN | apply below_drew1) | exact HB.out))) | (with_reducible refine Kd.C_alloc ?_ _) | (with_reducible refine Kd.C_drewN ?_ _) | (with_reducible refine Kd.C_drew ?_))); (case side4 => exact HC0.out); rintro e w26 ⟨rfl, hb⟩; have n0_ := Aside0.mk (below_step (by repeat (first | (with_reducible first | exact HB.out | apply below_alloc | apply pw_below_drewN | apply below_drew1) | exact HB.out)) hb); clear HB; have HB := n0_; clear n0_; (try clear hb); (try clear hb2); (try clear hk); (try clear hi)) | (go_at_call 35; (with_reducible refine (laws_turned.calls t148 t150 t151 _ A24.out).mono ?_); rintro e w' ⟨rfl, ⟨nd, rfl⟩⟩))
                go_ret
                exact ⟨by first | rfl | (simp [errW_none, errW_some] <;> rfl) | (simp [*, errW_none, errW_some] <;> rfl) | (simp [bne_nil_]; done), by repeat (first | (with_reducible first | exact HB.out | apply below_alloc | apply pw_below_drewN | apply below_drew1) | exact HB.out)⟩
              · rw [if_neg c22] at H
                have c22b0 : (t148 == t149) = false := beq_eq_false_iff_ne.mpr c22
                have c22b1 : (t148 != t149) = true := bne_iff_ne.mpr c22
                obtain rfl := Option.some.inj H
                go_wp2_with (first | ((with_reducible refine gate_callee (f := 33) rfl ?_); refine goesL_ (some 36) rfl rfl Tryd.func33 (by kernel_rfl) rfl #[.slice A0 l0.length c0, .slice A1 l1.length c1] rfl (by (try simp only [List.map_toArray, List.map_cons, List.map_nil]); first | done | rfl | (simp only [List.length_drop, List.length_take]; rfl)) ?_; (with_reducible refine (Giv.impl_PyPILocal.calls _ _ l0 _ _ l1 t148 _ ?side1 ?side2 ?side3 ?side4 A20.out (HLd.out.below (by repeat (first | (with_reducible first | exact HB.out | apply below_alloc | apply pw_below_drewN | apply below_drew1) | exact HB.out)))).mono ?_); (case side1 => repeat (first | exact (Kd.C_below HR0.out HB.out) | (with_reducible refine Kd.C_alloc ?_ _) | (with_reducible refine Kd.C_drewN ?_ _) | (with_reducible refine Kd.C_drew ?_))); (case side2 => exact HC0.out); (case side3 => repeat (first | exact (Kd.C_below HR1.out HB.out) | (with_reducible refine Kd.C_alloc ?_ _) | (with_reducible refine Kd.C_drewN ?_ _) | (with_reducible refine Kd.C_drew ?_))); (case side4 => exact HC1.out); rintro e w27 ⟨rfl, hb⟩; refine ⟨_, rfl, ?_⟩; have n0_ := Aside0.mk (below_step (by repeat (first | (with_reducible first | exact HB.out | apply below_alloc | apply pw_below_drewN | apply below_drew1) | exact HB.out)) hb); clear HB; have HB := n0_; clear n0_; (try clear hb); (try clear hb2); (try clear hk); (try clear hi)) | ((with_reducible refine gate_callee (f := 34) rfl ?_); refine goesL_ (some 40) rfl rfl Tryd.func34 (by kernel_rfl) rfl #[.slice A0 l0.length c0, .slice A1 l1.length c1] rfl (by (try simp only [List.map_toArray, List.map_cons, List.map_nil]); first | done | rfl | (simp only [List.length_drop, List.length_take]; rfl)) ?_; (with_reducible refine (spec_PyPILocal.calls kj7 _ _ l0 _ _ l1 t149 _ ?side1 ?side2 ?side3 ?side4 A21.out).mono ?_); (case side1 => repeat (first | exact (Kd.C_below HR0.out HB.out) | (with_reducible refine Kd.C_alloc ?_ _) | (with_reducible refine Kd.C_drewN ?_ _) | (with_reducible refine Kd.C_drew ?_))); (case side2 => exact HC0.out); (case side3 => repeat (first | exact (Kd.C_below HR1.out HB.out) | (with_reducible refine Kd.C_alloc ?_ _) | (with_reducible refine Kd.C_drewN ?_ _) | (with_reducible refine Kd.C_drew ?_))); (case side4 => exact HC1.out); rintro e w' ⟨rfl, ⟨nd, rfl⟩⟩; refine ⟨_, rfl, ?_⟩))
                go_ret
                exact ⟨by first | rfl | (simp [errW_none, errW_some] <;> rfl) | (simp [*, errW_none, errW_some] <;> rfl) | (simp [bne_nil_]; done), by repeat (first | (with_reducible first | exact HB.out | apply below_alloc | apply pw_below_drewN | apply below_drew1) | exact HB.out)⟩

/-! ### laws_one: function 77 -/
def laws_one.f  : Option (Bool × ByteArray) := some (false, (⟨#[1]⟩ : ByteArray))
set_option maxHeartbeats 8000000 in
set_option maxRecDepth 100000 in
theorem laws_one.calls  (r1 : Bool) (r2 : ByteArray) (w : World) (h : laws_one.f  = some (r1, r2)) :
    Calls Tryd.prog 77 #[] w fun e w' => e = .returned (.agg #[.bool r1, .string r2]) ∧ Below w.heap.size w w' := by
  have hu43 := Tryd.underlying43
  have HB := Aside0.mk (Below.refl w.heap.size w)
  have H : (some (false, (⟨#[1]⟩ : ByteArray))) = some (r1, r2) := h
  clear h
  simp only [Option.some.injEq, Prod.mk.injEq] at H
  obtain ⟨rfl, rfl⟩ := H
  go_enter Tryd.func77, Tryd.ntmps77
  go_wp2_with (first | ((with_reducible refine gate_dst (N := 0) rfl ?_); refine box_event ?hg (N := 0) ?hd (cs := #[.bool false, .string (⟨#[]⟩ : ByteArray)]) (t := 43) ?hr ?_; (case hd => rfl); (case hg => rfl); (case hr => first | (go_simp; done) | (go_simp; rfl)); intro gb152 hg w1 hbox hb; have n0_ := Aside0.mk (below_step (by repeat (first | (with_reducible first | exact HB.out | apply below_alloc | apply pw_below_drewN | apply below_drew1) | exact HB.out)) hb); have n1_ := Aside0.mk (hbox); have n2_ := Aside0.mk ((by rw [hg]; exact (below_size (by repeat (first | (with_reducible first | exact HB.out | apply below_alloc | apply pw_below_drewN | apply below_drew1) | exact HB.out))) : w.heap.size ≤ gb152)); have n3_ := Aside0.mk ((by rw [hg]; exact (below_size (by repeat (first | (with_reducible first | exact HB.out | apply below_alloc | apply pw_below_drewN | apply below_drew1) | exact HB.out))) : w.heap.size ≤ gb152)); clear HB; have HB := n0_; have BK152 := n1_; have GW152 := n2_; have GE152 := n3_; clear n0_ n1_ n2_ n3_; clear hb hbox hg; have hcz2_0 : w1.cell? ⟨gb152, 0, none⟩ = some (.bool false) := (blk_cell BK152.out 0).trans rfl; have hcz2_1 : w1.cell? ⟨gb152, 1, none⟩ = some (.string (⟨#[]⟩ : ByteArray)) := (blk_cell BK152.out 1).trans rfl; have hfz2_0 := blk_frozen BK152.out 0; have hfz2_1 := blk_frozen BK152.out 1))
  refine bodyPost_ret (results_cell_row rfl _ _ gb152 43 #[.bool false, .string (⟨#[1]⟩ : ByteArray)] (0, 0) _ rfl (by (with_reducible repeat (first | refine blk_drewN ?_ _ | refine blk_drew ?_ | refine blk_alloc ?_ _)); refine blk_put (cs := #[.bool false, .string (⟨#[]⟩ : ByteArray)]) ?_ 1 _ rfl; (with_reducible repeat (first | refine blk_drewN ?_ _ | refine blk_drew ?_ | refine blk_alloc ?_ _)); refine blk_put (cs := #[.bool false, .string (⟨#[]⟩ : ByteArray)]) ?_ 0 _ rfl; (with_reducible repeat (first | refine blk_drewN ?_ _ | refine blk_drew ?_ | refine blk_alloc ?_ _)); exact BK152.out) Tryd.underlying43 rfl (by kernel_rfl)) rfl ?_
  exact ⟨by first | rfl | (simp [errW_none, errW_some] <;> rfl) | (simp [*, errW_none, errW_some] <;> rfl) | (simp [bne_nil_]; done), by repeat (first | (with_reducible first | exact HB.out | apply below_alloc | apply pw_below_drewN | apply below_drew1 | refine below_set ?_ GE152.out) | exact HB.out)⟩

/-! ### laws_two: function 78 -/
def laws_two.f  : Option (Bool × ByteArray) := some (false, (⟨#[2]⟩ : ByteArray))
set_option maxHeartbeats 8000000 in
set_option maxRecDepth 100000 in
theorem laws_two.calls  (r1 : Bool) (r2 : ByteArray) (w : World) (h : laws_two.f  = some (r1, r2)) :
    Calls Tryd.prog 78 #[] w fun e w' => e = .returned (.agg #[.bool r1, .string r2]) ∧ Below w.heap.size w w' := by
  have hu43 := Tryd.underlying43
  have HB := Aside0.mk (Below.refl w.heap.size w)
  have H : (some (false, (⟨#[2]⟩ : ByteArray))) = some (r1, r2) := h
  clear h
  simp only [Option.some.injEq, Prod.mk.injEq] at H
  obtain ⟨rfl, rfl⟩ := H
  go_enter Tryd.func78, Tryd.ntmps78
  go_wp2_with (first | ((with_reducible refine gate_dst (N := 0) rfl ?_); refine box_event ?hg (N := 0) ?hd (cs := #[.bool false, .string (⟨#[]⟩ : ByteArray)]) (t := 43) ?hr ?_; (case hd => rfl); (case hg => rfl); (case hr => first | (go_simp; done) | (go_simp; rfl)); intro gb153 hg w1 hbox hb; have n0_ := Aside0.mk (below_step (by repeat (first | (with_reducible first | exact HB.out | apply below_alloc | apply pw_below_drewN | apply below_drew1) | exact HB.out)) hb); have n1_ := Aside0.mk (hbox); have n2_ := Aside0.mk ((by rw [hg]; exact (below_size (by repeat (first | (with_reducible first | exact HB.out | apply below_alloc | apply pw_below_drewN | apply below_drew1) | exact HB.out))) : w.heap.size ≤ gb153)); have n3_ := Aside0.mk ((by rw [hg]; exact (below_size (by repeat (first | (with_reducible first | exact HB.out | apply below_alloc | apply pw_below_drewN | apply below_drew1) | exact HB.out))) : w.heap.size ≤ gb153)); clear HB; have HB := n0_; have BK153 := n1_; have GW153 := n2_; have GE153 := n3_; clear n0_ n1_ n2_ n3_; clear hb hbox hg; have hcz2_0 : w1.cell? ⟨gb153, 0, none⟩ = some (.bool false) := (blk_cell BK153.out 0).trans rfl; have hcz2_1 : w1.cell? ⟨gb153, 1, none⟩ = some (.string (⟨#[]⟩ : ByteArray)) := (blk_cell BK153.out 1).trans rfl; have hfz2_0 := blk_frozen BK153.out 0; have hfz2_1 := blk_frozen BK153.out 1))
  refine bodyPost_ret (results_cell_row rfl _ _ gb153 43 #[.bool false, .string (⟨#[2]⟩ : ByteArray)] (0, 0) _ rfl (by (with_reducible repeat (first | refine blk_drewN ?_ _ | refine blk_drew ?_ | refine blk_alloc ?_ _)); refine blk_put (cs := #[.bool false, .string (⟨#[]⟩ : ByteArray)]) ?_ 1 _ rfl; (with_reducible repeat (first | refine blk_drewN ?_ _ | refine blk_drew ?_ | refine blk_alloc ?_ _)); refine blk_put (cs := #[.bool false, .string (⟨#[]⟩ : ByteArray)]) ?_ 0 _ rfl; (with_reducible repeat (first | refine blk_drewN ?_ _ | refine blk_drew ?_ | refine blk_alloc ?_ _)); exact BK153.out) Tryd.underlying43 rfl (by kernel_rfl)) rfl ?_
  exact ⟨by first | rfl | (simp [errW_none, errW_some] <;> rfl) | (simp [*, errW_none, errW_some] <;> rfl) | (simp [bne_nil_]; done), by repeat (first | (with_reducible first | exact HB.out | apply below_alloc | apply pw_below_drewN | apply below_drew1 | refine below_set ?_ GE153.out) | exact HB.out)⟩

-- LEFT OUT: function 200

-- LEFT OUT: function 179

-- LEFT OUT: function 201

-- LEFT OUT: function 180

-- LEFT OUT: function 155

-- LEFT OUT: function 156

-- LEFT OUT: function 158

-- NOT PRINTED: function 198 (strings_Join)

-- LEFT OUT: function 173

-- LEFT OUT: function 174

-- LEFT OUT: function 188

-- NOT PRINTED: function 163 (semantic_components_Fetch)

-- NOT PRINTED: function 142 (semantic_components_Cmp)

-- LEFT OUT: function 175

-- LEFT OUT: function 199

-- LEFT OUT: function 176

-- LEFT OUT: function 177

-- LEFT OUT: function 178

-- LEFT OUT: function 154

-- LEFT OUT: function 135

-- LEFT OUT: function 114

-- NOT PRINTED: function 79 (impl_PyPICompare)

-- NOT PRINTED: function 36 (laws_pypiAwake)

/-! ### laws_chained: function 37 -/
def laws_chained.j0 : Nat → Int → Int → Int → Bool → Option (Bool)
  | 0, _, _, _, _ => none
  | k + 1, x0, x1, x2, x27 => if x27 = true then (some false) else (if x0 ≥ 0 then (if x1 ≥ 0 then (if x2 < 0 then (some false) else (if x0 = 0 then (if ((x2 == 0) != (x1 == 0)) = true then (some false) else (some true)) else (if ((x2 == 0) != false) = true then (some false) else (some true)))) else (some true)) else (some true))
def laws_chained.f (k : Nat) (a0 : Int) (a1 : Int) (a2 : Int) : Option (Bool) := if a0 ≤ 0 then (if a1 ≤ 0 then (if a2 > 0 then (laws_chained.j0 k a0 a1 a2 true) else (if a0 = 0 then (laws_chained.j0 k a0 a1 a2 ((a2 == 0) != (a1 == 0))) else (laws_chained.j0 k a0 a1 a2 ((a2 == 0) != false)))) else (laws_chained.j0 k a0 a1 a2 false)) else (laws_chained.j0 k a0 a1 a2 false)
theorem laws_chained.mono_l : ∀ k, (∀ y0 y1 y2 y3, LeO (laws_chained.j0 k y0 y1 y2 y3) (laws_chained.j0 (k + 1) y0 y1 y2 y3))
  | 0 => fun _ _ _ _ r h => by simp [laws_chained.j0] at h
  | k + 1 => by
    have ih0 := laws_chained.mono_l k
    · intro y0 y1 y2 y3
      unfold laws_chained.j0
      repeat' first
      | (with_reducible exact ih0 _ _ _ _)
      | (with_reducible exact LeO.refl _)
      | (with_reducible exact LeO.none _)
      | (with_reducible refine LeO.ite ?_ ?_)
      | (with_reducible refine LeO.bind ?_ (fun _ => ?_))
      | exact ih0 _ _ _ _
      | exact LeO.none _
      | refine LeO.ite ?_ ?_
      | refine LeO.bind ?_ (fun _ => ?_)
theorem laws_chained.mono : ∀ a0 a1 a2 k, LeO (laws_chained.f k a0 a1 a2) (laws_chained.f (k + 1) a0 a1 a2) := by
  intro a0 a1 a2 k
  have ih0 := laws_chained.mono_l k
  unfold laws_chained.f
  repeat' first
      | (with_reducible exact ih0 _ _ _ _)
      | (with_reducible exact LeO.refl _)
      | (with_reducible exact LeO.none _)
      | (with_reducible refine LeO.ite ?_ ?_)
      | (with_reducible refine LeO.bind ?_ (fun _ => ?_))
      | exact ih0 _ _ _ _
      | exact LeO.none _
      | refine LeO.ite ?_ ?_
      | refine LeO.bind ?_ (fun _ => ?_)
set_option maxHeartbeats 8000000 in
set_option maxRecDepth 100000 in
theorem laws_chained.calls (k : Nat) (a0 : Int) (a1 : Int) (a2 : Int) (r : Bool) (w : World) (h : laws_chained.f k a0 a1 a2 = some r) :
    Calls Tryd.prog 37 #[.int .i64 a0, .int .i64 a1, .int .i64 a2] w fun e w' => e = .returned (.bool r) ∧ Drawn0 w w' := by
  have H : (if a0 ≤ 0 then (if a1 ≤ 0 then (if a2 > 0 then (laws_chained.j0 k a0 a1 a2 true) else (if a0 = 0 then (laws_chained.j0 k a0 a1 a2 ((a2 == 0) != (a1 == 0))) else (laws_chained.j0 k a0 a1 a2 ((a2 == 0) != false)))) else (laws_chained.j0 k a0 a1 a2 false)) else (laws_chained.j0 k a0 a1 a2 false)) = some r := h
  clear h
  have HC4 := Aside0.mk H
  clear H
  go_enter Tryd.func37, Tryd.ntmps37
  go_upto_region 1 with (fail)
  go_cut [27] (fun v27 wc => ∃ (kq : Nat) (x27_3 : Bool), v27 = .bool x27_3 ∧ Aside0 (laws_chained.j0 kq a0 a1 a2 x27_3 = some r) ∧ Aside0 (kq ≤ k) ∧ Drawn0 w wc)
  case first =>
    have H := HC4.out
    clear HC4
    by_cases c5 : a0 ≤ 0
    · rw [if_pos c5] at H
      have c5b0 : decide (a0 ≤ 0) = true := decide_eq_true c5
      clear c5
      (first | rw [c5b0] | (simp only [i64_w, i32_w]; rw [c5b0]) | skip)
      by_cases c6 : a1 ≤ 0
      · rw [if_pos c6] at H
        have c6b0 : decide (a1 ≤ 0) = true := decide_eq_true c6
        clear c6
        by_cases c7 : a2 > 0
        · rw [if_pos c7] at H
          have c7b0 : decide (0 < a2) = true := decide_eq_true c7
          clear c7
          have H' := Aside0.mk H
          clear H
          go_wp2
          go_meet
          case rel => exact ⟨_, (true), (by first | rfl | (simp; done) | (simp [*]; done) | (simp [bne_nil_]; done)), H', ⟨by first | omega | exact Nat.le_refl _⟩, by repeat (first | exact Drawn0.refl _ | apply Drawn0.step)⟩
        · rw [if_neg c7] at H
          have c7b0 : decide (0 < a2) = false := decide_eq_false c7
          clear c7
          by_cases c8 : a0 = 0
          · rw [if_pos c8] at H
            have c8b0 : (a0 == 0) = true := beq_iff_eq.mpr c8
            have c8b1 : (a0 != 0) = false := bne_eq_false_iff_eq.mpr c8
            clear c8
            have H' := Aside0.mk H
            clear H
            go_wp2
            go_meet
            case rel => exact ⟨_, (((a2 == 0) != (a1 == 0))), (by first | rfl | (simp; done) | (simp [*]; done) | (simp [bne_nil_]; done)), H', ⟨by first | omega | exact Nat.le_refl _⟩, by repeat (first | exact Drawn0.refl _ | apply Drawn0.step)⟩
          · rw [if_neg c8] at H
            have c8b0 : (a0 == 0) = false := beq_eq_false_iff_ne.mpr c8
            have c8b1 : (a0 != 0) = true := bne_iff_ne.mpr c8
            have H' := Aside0.mk H
            clear H
            go_wp2
            go_meet
            case rel => exact ⟨_, (((a2 == 0) != false)), (by first | rfl | (simp; done) | (simp [*]; done) | (simp [bne_nil_]; done)), H', ⟨by first | omega | exact Nat.le_refl _⟩, by repeat (first | exact Drawn0.refl _ | apply Drawn0.step)⟩
      · rw [if_neg c6] at H
        have c6b0 : decide (a1 ≤ 0) = false := decide_eq_false c6
        clear c6
        have H' := Aside0.mk H
        clear H
        go_wp2
        go_meet
        case rel => exact ⟨_, (false), (by first | rfl | (simp; done) | (simp [*]; done) | (simp [bne_nil_]; done)), H', ⟨by first | omega | exact Nat.le_refl _⟩, by repeat (first | exact Drawn0.refl _ | apply Drawn0.step)⟩
    · rw [if_neg c5] at H
      have c5b0 : decide (a0 ≤ 0) = false := decide_eq_false c5
      clear c5
      (first | rw [c5b0] | (simp only [i64_w, i32_w]; rw [c5b0]) | skip)
      have H' := Aside0.mk H
      clear H
      go_wp2
      go_meet
      case rel => exact ⟨_, (false), (by first | rfl | (simp; done) | (simp [*]; done) | (simp [bne_nil_]; done)), H', ⟨by first | omega | exact Nat.le_refl _⟩, by repeat (first | exact Drawn0.refl _ | apply Drawn0.step)⟩
  case rest =>
    clear HC4
    try clear p2
    try clear c3
    try clear c5
    try clear c5b0
    try clear c6
    try clear c6b0
    try clear c7
    try clear c7b0
    try clear c8
    try clear c8b0
    try clear c8b1
    obtain ⟨kq, x27_3, rfl, HA, HJ3, ⟨mc3, rfl⟩⟩ := hcut
    cases kq with
    | zero => exact absurd HA.out (by simp [laws_chained.j0])
    | succ kj3 =>
      have H := HA.out
      clear HA
      simp only [laws_chained.j0] at H
      by_cases c9 : x27_3 = true
      · subst c9
        have H1 : (some false) = some r := by rw [if_pos rfl] at H; exact H
        clear H
        have H := H1
        clear H1
        obtain rfl := Option.some.inj H
        go_wp2
        go_ret
        exact ⟨by first | rfl | (simp; done) | (simp [*]; done) | (simp [bne_nil_]; done), by repeat (first | exact Drawn0.refl _ | apply Drawn0.step)⟩
      · replace c9 := Bool.eq_false_iff.mpr c9
        subst c9
        have H1 : (if a0 ≥ 0 then (if a1 ≥ 0 then (if a2 < 0 then (some false) else (if a0 = 0 then (if ((a2 == 0) != (a1 == 0)) = true then (some false) else (some true)) else (if ((a2 == 0) != false) = true then (some false) else (some true)))) else (some true)) else (some true)) = some r := by rw [if_neg (show ¬ (false = true) by decide)] at H; exact H
        clear H
        have H := H1
        clear H1
        by_cases c10 : a0 ≥ 0
        · rw [if_pos c10] at H
          have c10b0 : decide (0 ≤ a0) = true := decide_eq_true c10
          clear c10
          by_cases c11 : a1 ≥ 0
          · rw [if_pos c11] at H
            have c11b0 : decide (0 ≤ a1) = true := decide_eq_true c11
            clear c11
            by_cases c12 : a2 < 0
            · rw [if_pos c12] at H
              have c12b0 : decide (a2 < 0) = true := decide_eq_true c12
              clear c12
              obtain rfl := Option.some.inj H
              go_wp2
              go_ret
              exact ⟨by first | rfl | (simp; done) | (simp [*]; done) | (simp [bne_nil_]; done), by repeat (first | exact Drawn0.refl _ | apply Drawn0.step)⟩
            · rw [if_neg c12] at H
              have c12b0 : decide (a2 < 0) = false := decide_eq_false c12
              clear c12
              by_cases c13 : a0 = 0
              · rw [if_pos c13] at H
                have c13b0 : (a0 == 0) = true := beq_iff_eq.mpr c13
                have c13b1 : (a0 != 0) = false := bne_eq_false_iff_eq.mpr c13
                clear c13
                by_cases c14 : ((a2 == 0) != (a1 == 0)) = true
                · rw [if_pos c14] at H
                  have c14b0 : ((a2 == 0) != (a1 == 0)) = true := c14
                  (try (have c14b1 : decide ((a2 == 0) = (a1 == 0)) = false := by simpa using c14))
                  (try (have c14b2 : ((a2 == 0) == (a1 == 0)) = false := by simpa using c14))
                  (try (have c14b3 : ¬ ((a2 == 0) = (a1 == 0)) := by simpa using c14))
                  clear c14
                  obtain rfl := Option.some.inj H
                  go_wp2
                  go_ret
                  exact ⟨by first | rfl | (simp; done) | (simp [*]; done) | (simp [bne_nil_]; done), by repeat (first | exact Drawn0.refl _ | apply Drawn0.step)⟩
                · rw [if_neg c14] at H
                  have c14b0 : ((a2 == 0) != (a1 == 0)) = false := by simpa using c14
                  (try (have c14b1 : decide ((a2 == 0) = (a1 == 0)) = true := by simpa using c14))
                  (try (have c14b2 : ((a2 == 0) == (a1 == 0)) = true := by simpa using c14))
                  clear c14
                  obtain rfl := Option.some.inj H
                  go_wp2
                  go_ret
                  exact ⟨by first | rfl | (simp; done) | (simp [*]; done) | (simp [bne_nil_]; done), by repeat (first | exact Drawn0.refl _ | apply Drawn0.step)⟩
              · rw [if_neg c13] at H
                have c13b0 : (a0 == 0) = false := beq_eq_false_iff_ne.mpr c13
                have c13b1 : (a0 != 0) = true := bne_iff_ne.mpr c13
                by_cases c15 : ((a2 == 0) != false) = true
                · rw [if_pos c15] at H
                  have c15b0 : ((a2 == 0) != false) = true := c15
                  (try (have c15b1 : decide ((a2 == 0) = false) = false := by simpa using c15))
                  (try (have c15b2 : ((a2 == 0) == false) = false := by simpa using c15))
                  (try (have c15b3 : ¬ ((a2 == 0) = false) := by simpa using c15))
                  clear c15
                  obtain rfl := Option.some.inj H
                  go_wp2
                  go_ret
                  exact ⟨by first | rfl | (simp; done) | (simp [*]; done) | (simp [bne_nil_]; done), by repeat (first | exact Drawn0.refl _ | apply Drawn0.step)⟩
                · rw [if_neg c15] at H
                  have c15b0 : ((a2 == 0) != false) = false := by simpa using c15
                  (try (have c15b1 : decide ((a2 == 0) = false) = true := by simpa using c15))
                  (try (have c15b2 : ((a2 == 0) == false) = true := by simpa using c15))
                  clear c15
                  obtain rfl := Option.some.inj H
                  go_wp2
                  go_ret
                  exact ⟨by first | rfl | (simp; done) | (simp [*]; done) | (simp [bne_nil_]; done), by repeat (first | exact Drawn0.refl _ | apply Drawn0.step)⟩
          · rw [if_neg c11] at H
            have c11b0 : decide (0 ≤ a1) = false := decide_eq_false c11
            clear c11
            obtain rfl := Option.some.inj H
            go_wp2
            go_ret
            exact ⟨by first | rfl | (simp; done) | (simp [*]; done) | (simp [bne_nil_]; done), by repeat (first | exact Drawn0.refl _ | apply Drawn0.step)⟩
        · rw [if_neg c10] at H
          have c10b0 : decide (0 ≤ a0) = false := decide_eq_false c10
          clear c10
          obtain rfl := Option.some.inj H
          go_wp2
          go_ret
          exact ⟨by first | rfl | (simp; done) | (simp [*]; done) | (simp [bne_nil_]; done), by repeat (first | exact Drawn0.refl _ | apply Drawn0.step)⟩

-- NOT PRINTED: function 7 (laws_FnPyPILocalOrder)

end Go.Proofs.YtchbfjjeodnocaaDoor.QY
