-- Written by a working copy of the kit's print program, turned at a few places by wip/tool/mkprint.py. Lean checks it.
import Derived.Test.YtnbpoplomdocjaaGreatDoorQRx0
namespace Go.Proofs.YtnbpoplomdocjaaGreatDoor.QR
open Go.RowKit Go.Proofs.YtnbpoplomdocjaaGreatDoorW.PrintWords Go.Proofs.YtnbpoplomdocjaaGreatDoorW.PrintLast Go.Proofs.YtnbpoplomdocjaaGreatDoorW.PrintMore
attribute [local go_sem] max2_int min2_int max_two min_two max_three min_three max_four min_four   -- for this text's walks alone
set_option linter.unusedVariables false
set_option linter.unusedSimpArgs false

/-! ### semantic_zzIndex: function 76 -/
def semantic_zzIndex.l0 : Nat → ByteArray → ByteArray → Int → Option (Int)
  | 0, _, _, _ => none
  | k + 1, x0, x1, x5 => if (wrap64 (x5 + (x1.size : Int))) ≤ (x0.size : Int) then (if 0 ≤ x5 then (if x5 ≤ (wrap64 (x5 + (x1.size : Int))) then (if (x0.extract (x5 : Int).toNat ((wrap64 (x5 + (x1.size : Int))) : Int).toNat).toList = x1.toList then (some x5) else (semantic_zzIndex.l0 k x0 x1 (wrap64 (x5 + 1)))) else (none)) else (none)) else (some (-1))
def semantic_zzIndex.f (k : Nat) (a0 : ByteArray) (a1 : ByteArray) : Option (Int) := semantic_zzIndex.l0 k a0 a1 0
theorem semantic_zzIndex.mono_l : ∀ k, (∀ y0 y1 y2, LeO (semantic_zzIndex.l0 k y0 y1 y2) (semantic_zzIndex.l0 (k + 1) y0 y1 y2))
  | 0 => fun _ _ _ r h => by simp [semantic_zzIndex.l0] at h
  | k + 1 => by
    have ih0 := semantic_zzIndex.mono_l k
    · intro y0 y1 y2
      unfold semantic_zzIndex.l0
      repeat' first
      | (with_reducible exact ih0 _ _ _)
      | (with_reducible exact LeO.refl _)
      | (with_reducible exact LeO.none _)
      | (with_reducible refine LeO.ite ?_ ?_)
      | (with_reducible refine LeO.bind ?_ (fun _ => ?_))
      | exact ih0 _ _ _
      | exact LeO.none _
      | refine LeO.ite ?_ ?_
      | refine LeO.bind ?_ (fun _ => ?_)
theorem semantic_zzIndex.mono : ∀ a0 a1 k, LeO (semantic_zzIndex.f k a0 a1) (semantic_zzIndex.f (k + 1) a0 a1) := by
  intro a0 a1 k
  have ih0 := semantic_zzIndex.mono_l k
  unfold semantic_zzIndex.f
  repeat' first
      | (with_reducible exact ih0 _ _ _)
      | (with_reducible exact LeO.refl _)
      | (with_reducible exact LeO.none _)
      | (with_reducible refine LeO.ite ?_ ?_)
      | (with_reducible refine LeO.bind ?_ (fun _ => ?_))
      | exact ih0 _ _ _
      | exact LeO.none _
      | refine LeO.ite ?_ ?_
      | refine LeO.bind ?_ (fun _ => ?_)
set_option maxHeartbeats 8000000 in
set_option maxRecDepth 100000 in
theorem semantic_zzIndex.calls (k : Nat) (a0 : ByteArray) (a1 : ByteArray) (r : Int) (w : World) (h : semantic_zzIndex.f k a0 a1 = some r) :
    Calls Tryz.prog 76 #[.string a0, .string a1] w fun e w' => e = .returned (.int .i64 r) ∧ Drawn0 w w' := by
  have H : (semantic_zzIndex.l0 k a0 a1 0) = some r := h
  clear h
  have H' := Aside0.mk H
  clear H
  go_enter Tryz.func76, Tryz.ntmps76
  go_wp2
  go_loopg [5] k (fun kq v5 w' => ∃ (x5_1 : Int), v5 = .int .i64 x5_1 ∧ Aside0 (semantic_zzIndex.l0 kq a0 a1 x5_1 = some r) ∧ Aside0 (kq ≤ k) ∧ Drawn0 w w')
  case atStart => exact ⟨(0), (by first | rfl | (simp; done) | (simp [*]; done) | (simp [bne_nil_]; done)), H', ⟨Nat.le_refl _⟩, by repeat (first | exact Drawn0.refl _ | apply Drawn0.step)⟩
  case round =>
    clear H'
    try clear p2
    obtain ⟨x5_1, rfl, HA, HK1, ⟨m1, rfl⟩⟩ := hrel
    cases gk with
    | zero => exact absurd HA.out (by simp [semantic_zzIndex.l0])
    | succ k1 =>
      have H := HA.out
      clear HA
      simp only [semantic_zzIndex.l0] at H
      by_cases c3 : (wrap64 (x5_1 + (a1.size : Int))) ≤ (a0.size : Int)
      · rw [if_pos c3] at H
        have c3b0 : decide ((wrap64 (x5_1 + (a1.size : Int))) ≤ (a0.size : Int)) = true := decide_eq_true c3
        clear c3
        by_cases c4 : 0 ≤ x5_1
        · rw [if_pos c4] at H
          have c4b0 := eq_true c4
          have c4b1 : decide (0 ≤ x5_1) = true := decide_eq_true c4
          clear c4
          by_cases c5 : x5_1 ≤ (wrap64 (x5_1 + (a1.size : Int)))
          · rw [if_pos c5] at H
            have c5b0 := eq_true c5
            have c5b1 : decide (x5_1 ≤ (wrap64 (x5_1 + (a1.size : Int)))) = true := decide_eq_true c5
            have c6b0 := eq_true (of_decide_eq_true (by first | (with_reducible assumption) | assumption) : (wrap64 (x5_1 + (a1.size : Int))) ≤ (a0.size : Int))
            by_cases c7 : (a0.extract (x5_1 : Int).toNat ((wrap64 (x5_1 + (a1.size : Int))) : Int).toNat).toList = a1.toList
            · rw [if_pos c7] at H
              (try (have c7bz := c7; simp only [ByteArray.size_extract, Nat.min_self] at c7bz; replace c7bz := decide_eq_true c7bz))
              have c7b0 : ((a0.extract (x5_1 : Int).toNat ((wrap64 (x5_1 + (a1.size : Int))) : Int).toNat).toList == a1.toList) = true := beq_iff_eq.mpr c7
              have c7b1 : ((a0.extract (x5_1 : Int).toNat ((wrap64 (x5_1 + (a1.size : Int))) : Int).toNat).toList != a1.toList) = false := bne_eq_false_iff_eq.mpr c7
              clear c7
              obtain rfl := Option.some.inj H
              go_wp2
              go_ret
              exact ⟨by first | rfl | (simp; done) | (simp [*]; done) | (simp [bne_nil_]; done), by repeat (first | exact Drawn0.refl _ | apply Drawn0.step)⟩
            · rw [if_neg c7] at H
              (try (have c7bz := c7; simp only [ByteArray.size_extract, Nat.min_self] at c7bz; replace c7bz := decide_eq_false c7bz))
              have c7b0 : ((a0.extract (x5_1 : Int).toNat ((wrap64 (x5_1 + (a1.size : Int))) : Int).toNat).toList == a1.toList) = false := beq_eq_false_iff_ne.mpr c7
              have c7b1 : ((a0.extract (x5_1 : Int).toNat ((wrap64 (x5_1 + (a1.size : Int))) : Int).toNat).toList != a1.toList) = true := bne_iff_ne.mpr c7
              have H' := Aside0.mk H
              clear H
              go_wp2
              go_roundg k1
              case measure => have := HK1.out; omega
              case rel => exact ⟨(wrap64 (x5_1 + 1)), (by first | rfl | (simp; done) | (simp [*]; done) | (simp [bne_nil_]; done)), H', ⟨by have := HK1.out; omega⟩, by repeat (first | exact Drawn0.refl _ | apply Drawn0.step)⟩
          · rw [if_neg c5] at H
            exact absurd H (by simp)
        · rw [if_neg c4] at H
          exact absurd H (by simp)
      · rw [if_neg c3] at H
        have c3b0 : decide ((wrap64 (x5_1 + (a1.size : Int))) ≤ (a0.size : Int)) = false := decide_eq_false c3
        clear c3
        obtain rfl := Option.some.inj H
        go_wp2
        go_ret
        exact ⟨by first | rfl | (simp; done) | (simp [*]; done) | (simp [bne_nil_]; done), by repeat (first | exact Drawn0.refl _ | apply Drawn0.step)⟩

/-! ### semantic_zzCut: function 42 -/
def semantic_zzCut.f (k : Nat) (a0 : ByteArray) (a1 : ByteArray) : Option (ByteArray × ByteArray × Bool) := (semantic_zzIndex.f k a0 a1).bind fun t101 => (if t101 ≥ 0 then (if 0 ≤ t101 then (if t101 ≤ (a0.size : Int) then (if 0 ≤ (wrap64 (t101 + (a1.size : Int))) then (if (wrap64 (t101 + (a1.size : Int))) ≤ (a0.size : Int) then (some (a0.extract 0 (t101 : Int).toNat, a0.extract ((wrap64 (t101 + (a1.size : Int))) : Int).toNat a0.size, true)) else (none)) else (none)) else (none)) else (none)) else (some (a0, (⟨#[]⟩ : ByteArray), false)))
theorem semantic_zzCut.mono : ∀ a0 a1 k, LeO (semantic_zzCut.f k a0 a1) (semantic_zzCut.f (k + 1) a0 a1) := by
  intro a0 a1 k
  unfold semantic_zzCut.f
  repeat' first
      | (with_reducible exact semantic_zzIndex.mono _ _ _)
      | (with_reducible exact LeO.refl _)
      | (with_reducible exact LeO.none _)
      | (with_reducible refine LeO.ite ?_ ?_)
      | (with_reducible refine LeO.bind ?_ (fun _ => ?_))
      | exact semantic_zzIndex.mono _ _ _
      | exact LeO.none _
      | refine LeO.ite ?_ ?_
      | refine LeO.bind ?_ (fun _ => ?_)
set_option maxHeartbeats 8000000 in
set_option maxRecDepth 100000 in
theorem semantic_zzCut.calls (k : Nat) (a0 : ByteArray) (a1 : ByteArray) (r1 : ByteArray) (r2 : ByteArray) (r3 : Bool) (w : World) (h : semantic_zzCut.f k a0 a1 = some (r1, r2, r3)) :
    Calls Tryz.prog 42 #[.string a0, .string a1] w fun e w' => e = .returned (.tuple #[.string r1, .string r2, .bool r3]) ∧ Drawn0 w w' := by
  have H : ((semantic_zzIndex.f k a0 a1).bind fun t101 => (if t101 ≥ 0 then (if 0 ≤ t101 then (if t101 ≤ (a0.size : Int) then (if 0 ≤ (wrap64 (t101 + (a1.size : Int))) then (if (wrap64 (t101 + (a1.size : Int))) ≤ (a0.size : Int) then (some (a0.extract 0 (t101 : Int).toNat, a0.extract ((wrap64 (t101 + (a1.size : Int))) : Int).toNat a0.size, true)) else (none)) else (none)) else (none)) else (none)) else (some (a0, (⟨#[]⟩ : ByteArray), false)))) = some (r1, r2, r3) := h
  clear h
  replace H := Option.bind_eq_some_iff.mp H
  obtain ⟨t101, A30, H⟩ := H
  replace H : (if t101 ≥ 0 then (if 0 ≤ t101 then (if t101 ≤ (a0.size : Int) then (if 0 ≤ (wrap64 (t101 + (a1.size : Int))) then (if (wrap64 (t101 + (a1.size : Int))) ≤ (a0.size : Int) then (some (a0.extract 0 (t101 : Int).toNat, a0.extract ((wrap64 (t101 + (a1.size : Int))) : Int).toNat a0.size, true)) else (none)) else (none)) else (none)) else (none)) else (some (a0, (⟨#[]⟩ : ByteArray), false))) = some (r1, r2, r3) := H
  have A3 := Aside0.mk A30
  clear A30
  by_cases c4 : t101 ≥ 0
  · rw [if_pos c4] at H
    have c4b0 : decide (0 ≤ t101) = true := decide_eq_true c4
    clear c4
    by_cases c5 : 0 ≤ t101
    · rw [if_pos c5] at H
      have c5b0 := eq_true c5
      have c5b1 : decide (0 ≤ t101) = true := decide_eq_true c5
      clear c5
      by_cases c6 : t101 ≤ (a0.size : Int)
      · rw [if_pos c6] at H
        have c6b0 := eq_true c6
        have c6b1 : decide (t101 ≤ (a0.size : Int)) = true := decide_eq_true c6
        clear c6
        obtain ⟨ji7, hji7⟩ : ∃ j_ : Int, (wrap64 (t101 + (a1.size : Int))) = j_ := ⟨_, rfl⟩
        replace H : (if 0 ≤ (ji7) then (if (ji7) ≤ (a0.size : Int) then (some (a0.extract 0 (t101 : Int).toNat, a0.extract ((ji7) : Int).toNat a0.size, true)) else (none)) else (none)) = some (r1, r2, r3) := by first | (rw [hji7] at H; exact H) | (simp only [hji7] at H ⊢; exact H)
        (try rw [hji7] at A3)
        have hji7w : (IntKind.i64.wrap (t101 + (a1.size : Int))) = ji7 := (i64_w _).trans hji7
        by_cases c8 : 0 ≤ (ji7)
        · rw [if_pos c8] at H
          have c8b0 := eq_true c8
          have c8b1 : decide (0 ≤ (ji7)) = true := decide_eq_true c8
          clear c8
          by_cases c9 : (ji7) ≤ (a0.size : Int)
          · rw [if_pos c9] at H
            have c9b0 := eq_true c9
            have c9b1 : decide ((ji7) ≤ (a0.size : Int)) = true := decide_eq_true c9
            clear c9
            simp only [Option.some.injEq, Prod.mk.injEq] at H
            obtain ⟨rfl, rfl, rfl⟩ := H
            go_enter Tryz.func42, Tryz.ntmps42
            go_wp2_with (first | (go_at_call 76; (with_reducible refine (semantic_zzIndex.calls k a0 a1 t101 _ A3.out).mono ?_); rintro e w' ⟨rfl, ⟨nd, rfl⟩⟩; (try first | exact ⟨rfl, _, World.drewN_drewN _ _ _⟩ | exact ⟨rfl, _, Eq.trans (World.drewN_drewN _ _ _) (congrArg (World.drewN _) (Nat.add_assoc _ _ _))⟩)))
            repeat (go_quiet (first | (go_at_call 76; (with_reducible refine (semantic_zzIndex.calls k a0 a1 t101 _ A3.out).mono ?_); rintro e w' ⟨rfl, ⟨nd, rfl⟩⟩; (try first | exact ⟨rfl, _, World.drewN_drewN _ _ _⟩ | exact ⟨rfl, _, Eq.trans (World.drewN_drewN _ _ _) (congrArg (World.drewN _) (Nat.add_assoc _ _ _))⟩))); try go_wp2_with (first | (go_at_call 76; (with_reducible refine (semantic_zzIndex.calls k a0 a1 t101 _ A3.out).mono ?_); rintro e w' ⟨rfl, ⟨nd, rfl⟩⟩; (try first | exact ⟨rfl, _, World.drewN_drewN _ _ _⟩ | exact ⟨rfl, _, Eq.trans (World.drewN_drewN _ _ _) (congrArg (World.drewN _) (Nat.add_assoc _ _ _))⟩))))
            go_ret3
            exact ⟨by first | rfl | (simp; done) | (simp only [← hji7] <;> (first | rfl | simp)) | (simp [*]; done), by repeat (first | exact Drawn0.refl _ | apply Drawn0.step)⟩
          · rw [if_neg c9] at H
            exact absurd H (by simp)
        · rw [if_neg c8] at H
          exact absurd H (by simp)
      · rw [if_neg c6] at H
        exact absurd H (by simp)
    · rw [if_neg c5] at H
      exact absurd H (by simp)
  · rw [if_neg c4] at H
    have c4b0 : decide (0 ≤ t101) = false := decide_eq_false c4
    clear c4
    simp only [Option.some.injEq, Prod.mk.injEq] at H
    obtain ⟨rfl, rfl, rfl⟩ := H
    go_enter Tryz.func42, Tryz.ntmps42
    go_wp2_with (first | (go_at_call 76; (with_reducible refine (semantic_zzIndex.calls k a0 a1 t101 _ A3.out).mono ?_); rintro e w' ⟨rfl, ⟨nd, rfl⟩⟩; (try first | exact ⟨rfl, _, World.drewN_drewN _ _ _⟩ | exact ⟨rfl, _, Eq.trans (World.drewN_drewN _ _ _) (congrArg (World.drewN _) (Nat.add_assoc _ _ _))⟩)))
    repeat (go_quiet (first | (go_at_call 76; (with_reducible refine (semantic_zzIndex.calls k a0 a1 t101 _ A3.out).mono ?_); rintro e w' ⟨rfl, ⟨nd, rfl⟩⟩; (try first | exact ⟨rfl, _, World.drewN_drewN _ _ _⟩ | exact ⟨rfl, _, Eq.trans (World.drewN_drewN _ _ _) (congrArg (World.drewN _) (Nat.add_assoc _ _ _))⟩))); try go_wp2_with (first | (go_at_call 76; (with_reducible refine (semantic_zzIndex.calls k a0 a1 t101 _ A3.out).mono ?_); rintro e w' ⟨rfl, ⟨nd, rfl⟩⟩; (try first | exact ⟨rfl, _, World.drewN_drewN _ _ _⟩ | exact ⟨rfl, _, Eq.trans (World.drewN_drewN _ _ _) (congrArg (World.drewN _) (Nat.add_assoc _ _ _))⟩))))
    go_ret3
    exact ⟨by first | rfl | (simp; done) | (simp [*]; done) | (simp [bne_nil_]; done), by repeat (first | exact Drawn0.refl _ | apply Drawn0.step)⟩

/-! ### semantic_isASCIIDigit: function 80 -/
def semantic_isASCIIDigit.f (a0 : Int) : Option (Bool) := if a0 ≥ 48 then (some (decide (a0 ≤ 57))) else (some false)
set_option maxHeartbeats 8000000 in
set_option maxRecDepth 100000 in
theorem semantic_isASCIIDigit.calls (a0 : Int) (r : Bool) (w : World) (h : semantic_isASCIIDigit.f a0 = some r) :
    Calls Tryz.prog 80 #[.int .i32 a0] w fun e w' => e = .returned (.bool r) ∧ Drawn0 w w' := by
  have H : (if a0 ≥ 48 then (some (decide (a0 ≤ 57))) else (some false)) = some r := h
  clear h
  by_cases c2 : a0 ≥ 48
  · rw [if_pos c2] at H
    have c2b0 : decide (48 ≤ a0) = true := decide_eq_true c2
    clear c2
    obtain rfl := Option.some.inj H
    go_enter Tryz.func80, Tryz.ntmps80
    go_wp2
    go_ret
    exact ⟨by first | rfl | (simp; done) | (simp [*]; done) | (simp [bne_nil_]; done), by repeat (first | exact Drawn0.refl _ | apply Drawn0.step)⟩
  · rw [if_neg c2] at H
    have c2b0 : decide (48 ≤ a0) = false := decide_eq_false c2
    clear c2
    obtain rfl := Option.some.inj H
    go_enter Tryz.func80, Tryz.ntmps80
    go_wp2
    go_ret
    exact ⟨by first | rfl | (simp; done) | (simp [*]; done) | (simp [bne_nil_]; done), by repeat (first | exact Drawn0.refl _ | apply Drawn0.step)⟩

-- GIVEN: function 43 (semantic_isOnlyDigits)

/-! ### semantic_ParseRedHatVersion: function 19 -/
mutual
def semantic_ParseRedHatVersion.j0 : Nat → ByteArray → ByteArray → ByteArray → Bool → Option (ByteArray × ByteArray × ByteArray)
  | 0, _, _, _, _ => none
  | k + 1, x0, x3, x4, x21 => if x21 = true then (semantic_ParseRedHatVersion.j1 k (⟨#[]⟩ : ByteArray) x0) else (semantic_ParseRedHatVersion.j1 k x3 x4)
def semantic_ParseRedHatVersion.j1 : Nat → ByteArray → ByteArray → Option (ByteArray × ByteArray × ByteArray)
  | 0, _, _ => none
  | k + 1, x3, x4 => (semantic_zzCut.f k x4 (⟨#[45]⟩ : ByteArray)).bind fun bt107 => (if bt107.2.2 = true then (if 1 + bt107.2.1.size ≤ 9223372036854775807 then (if x3.toList = ([] : List UInt8) then (some ((⟨#[48]⟩ : ByteArray), bt107.1, (⟨#[45]⟩ : ByteArray) ++ bt107.2.1)) else (some (x3, bt107.1, (⟨#[45]⟩ : ByteArray) ++ bt107.2.1))) else (none)) else (if x3.toList = ([] : List UInt8) then (some ((⟨#[48]⟩ : ByteArray), bt107.1, bt107.2.1)) else (some (x3, bt107.1, bt107.2.1))))
end
def semantic_ParseRedHatVersion.f (k : Nat) (a0 : ByteArray) : Option (ByteArray × ByteArray × ByteArray) := (semantic_zzCut.f k a0 (⟨#[58]⟩ : ByteArray)).bind fun bt103 => (if bt103.2.2 = true then ((Giv.semantic_isOnlyDigits.f bt103.1).bind fun t106 => (semantic_ParseRedHatVersion.j0 k a0 bt103.1 bt103.2.1 (!t106))) else (semantic_ParseRedHatVersion.j0 k a0 bt103.1 bt103.2.1 true))
theorem semantic_ParseRedHatVersion.mono_l : ∀ k, (∀ y0 y1 y2 y3, LeO (semantic_ParseRedHatVersion.j0 k y0 y1 y2 y3) (semantic_ParseRedHatVersion.j0 (k + 1) y0 y1 y2 y3)) ∧ (∀ y0 y1, LeO (semantic_ParseRedHatVersion.j1 k y0 y1) (semantic_ParseRedHatVersion.j1 (k + 1) y0 y1))
  | 0 => ⟨fun _ _ _ _ r h => by simp [semantic_ParseRedHatVersion.j0] at h, fun _ _ r h => by simp [semantic_ParseRedHatVersion.j1] at h⟩
  | k + 1 => by
    obtain ⟨ih0, ih1⟩ := semantic_ParseRedHatVersion.mono_l k
    refine ⟨?_, ?_⟩
    · intro y0 y1 y2 y3
      unfold semantic_ParseRedHatVersion.j0
      repeat' first
      | (with_reducible exact ih0 _ _ _ _)
      | (with_reducible exact ih1 _ _)
      | (with_reducible exact semantic_zzCut.mono _ _ _)
      | (with_reducible exact LeO.refl _)
      | (with_reducible exact LeO.none _)
      | (with_reducible refine LeO.ite ?_ ?_)
      | (with_reducible refine LeO.bind ?_ (fun _ => ?_))
      | exact ih0 _ _ _ _
      | exact ih1 _ _
      | exact semantic_zzCut.mono _ _ _
      | exact LeO.none _
      | refine LeO.ite ?_ ?_
      | refine LeO.bind ?_ (fun _ => ?_)
    · intro y0 y1
      unfold semantic_ParseRedHatVersion.j1
      repeat' first
      | (with_reducible exact ih0 _ _ _ _)
      | (with_reducible exact ih1 _ _)
      | (with_reducible exact semantic_zzCut.mono _ _ _)
      | (with_reducible exact LeO.refl _)
      | (with_reducible exact LeO.none _)
      | (with_reducible refine LeO.ite ?_ ?_)
      | (with_reducible refine LeO.bind ?_ (fun _ => ?_))
      | exact ih0 _ _ _ _
      | exact ih1 _ _
      | exact semantic_zzCut.mono _ _ _
      | exact LeO.none _
      | refine LeO.ite ?_ ?_
      | refine LeO.bind ?_ (fun _ => ?_)
theorem semantic_ParseRedHatVersion.mono : ∀ a0 k, LeO (semantic_ParseRedHatVersion.f k a0) (semantic_ParseRedHatVersion.f (k + 1) a0) := by
  intro a0 k
  obtain ⟨ih0, ih1⟩ := semantic_ParseRedHatVersion.mono_l k
  unfold semantic_ParseRedHatVersion.f
  repeat' first
      | (with_reducible exact ih0 _ _ _ _)
      | (with_reducible exact ih1 _ _)
      | (with_reducible exact semantic_zzCut.mono _ _ _)
      | (with_reducible exact LeO.refl _)
      | (with_reducible exact LeO.none _)
      | (with_reducible refine LeO.ite ?_ ?_)
      | (with_reducible refine LeO.bind ?_ (fun _ => ?_))
      | exact ih0 _ _ _ _
      | exact ih1 _ _
      | exact semantic_zzCut.mono _ _ _
      | exact LeO.none _
      | refine LeO.ite ?_ ?_
      | refine LeO.bind ?_ (fun _ => ?_)
set_option maxHeartbeats 8000000 in
set_option maxRecDepth 100000 in
theorem semantic_ParseRedHatVersion.calls (k : Nat) (a0 : ByteArray) (r1 : ByteArray) (r2 : ByteArray) (r3 : ByteArray) (w : World) (h : semantic_ParseRedHatVersion.f k a0 = some (r1, r2, r3)) :
    Calls Tryz.prog 19 #[.string a0] w fun e w' => e = .returned (.agg #[.string r1, .string r2, .string r3]) ∧ Below w.heap.size w w' := by
  have hu42 := Tryz.underlying42
  have HB := Aside0.mk (Below.refl w.heap.size w)
  have H : ((semantic_zzCut.f k a0 (⟨#[58]⟩ : ByteArray)).bind fun bt103 => (if bt103.2.2 = true then ((Giv.semantic_isOnlyDigits.f bt103.1).bind fun t106 => (semantic_ParseRedHatVersion.j0 k a0 bt103.1 bt103.2.1 (!t106))) else (semantic_ParseRedHatVersion.j0 k a0 bt103.1 bt103.2.1 true))) = some (r1, r2, r3) := h
  clear h
  replace H := Option.bind_eq_some_iff.mp H
  obtain ⟨⟨t103, t104, t105⟩, A20, H⟩ := H
  replace H : (if t105 = true then ((Giv.semantic_isOnlyDigits.f t103).bind fun t106 => (semantic_ParseRedHatVersion.j0 k a0 t103 t104 (!t106))) else (semantic_ParseRedHatVersion.j0 k a0 t103 t104 true)) = some (r1, r2, r3) := H
  have A2 := Aside0.mk A20
  clear A20
  have HC3 := Aside0.mk H
  clear H
  go_enter Tryz.func19, Tryz.ntmps19
  go_upto_region 2 with (first | ((with_reducible refine gate_dst (N := 2) rfl ?_); refine box_event ?hg (N := 2) ?hd (cs := #[.string (⟨#[]⟩ : ByteArray), .string (⟨#[]⟩ : ByteArray), .string (⟨#[]⟩ : ByteArray)]) (t := 42) ?hr ?_; (case hd => rfl); (case hg => rfl); (case hr => first | (go_simp; done) | (go_simp; rfl)); intro gb102 hg w4 hbox hb; have n0_ := Aside0.mk (below_step (by repeat (first | (with_reducible first | exact HB.out | apply below_alloc | apply pw_below_drewN | apply below_drew1) | exact HB.out)) hb); have n1_ := Aside0.mk (hbox); have n2_ := Aside0.mk ((by rw [hg]; exact (below_size (by repeat (first | (with_reducible first | exact HB.out | apply below_alloc | apply pw_below_drewN | apply below_drew1) | exact HB.out))) : w.heap.size ≤ gb102)); have n3_ := Aside0.mk ((by rw [hg]; exact (below_size (by repeat (first | (with_reducible first | exact HB.out | apply below_alloc | apply pw_below_drewN | apply below_drew1) | exact HB.out))) : w.heap.size ≤ gb102)); clear HB; have HB := n0_; have BK102 := n1_; have GW102 := n2_; have GE102 := n3_; clear n0_ n1_ n2_ n3_; clear hb hbox hg) | ((with_reducible refine gate_callee (f := 42) rfl ?_); refine goesL_ (some 11) rfl rfl Tryz.func42 (by kernel_rfl) rfl #[.string a0, .string (⟨#[58]⟩ : ByteArray)] rfl (by (try simp only [List.map_toArray, List.map_cons, List.map_nil]); first | done | rfl | (simp only [List.length_drop, List.length_take]; rfl)) ?_; (with_reducible refine (semantic_zzCut.calls k a0 (⟨#[58]⟩ : ByteArray) t103 t104 t105 _ A2.out).mono ?_); rintro e w' ⟨rfl, ⟨nd, rfl⟩⟩; refine ⟨_, rfl, ?_⟩))
  (try simp only [Act.put, List.setIfInBounds_toArray, List.set_cons_zero, List.set_cons_succ])
  go_cut [21] (fun v21 wc => ∃ (kq : Nat) (x21_2 : Bool), v21 = .bool x21_2 ∧ Aside0 (semantic_ParseRedHatVersion.j0 kq a0 t103 t104 x21_2 = some (r1, r2, r3)) ∧ Aside0 (kq ≤ k) ∧ Aside0 (wc.heap[gb102]? = some (.cells #[.string (⟨#[]⟩ : ByteArray), .string (⟨#[]⟩ : ByteArray), .string (⟨#[]⟩ : ByteArray)] 42 (0, 0))) ∧ Aside0 (Below w.heap.size w wc))
  case first =>
    have H := HC3.out
    clear HC3
    by_cases c5 : t105 = true
    · subst c5
      have H1 : ((Giv.semantic_isOnlyDigits.f t103).bind fun t106 => (semantic_ParseRedHatVersion.j0 k a0 t103 t104 (!t106))) = some (r1, r2, r3) := by rw [if_pos rfl] at H; exact H
      clear H
      have H := H1
      clear H1
      replace H := Option.bind_eq_some_iff.mp H
      obtain ⟨t106, A60, H⟩ := H
      replace H : (semantic_ParseRedHatVersion.j0 k a0 t103 t104 (!t106)) = some (r1, r2, r3) := H
      have A6 := Aside0.mk A60
      clear A60
      have H' := Aside0.mk H
      clear H
      go_wp2_with (first | (go_at_call 43; (with_reducible refine (Giv.semantic_isOnlyDigits.calls t103 t106 _ A6.out).mono ?_); rintro e w7 ⟨rfl, hb⟩; have n0_ := Aside0.mk (blk_below (g := gb102) (o := .cells #[.string (⟨#[]⟩ : ByteArray), .string (⟨#[]⟩ : ByteArray), .string (⟨#[]⟩ : ByteArray)] 42 (0, 0)) (by (with_reducible repeat (first | refine blk_drewN ?_ _ | refine blk_drew ?_ | refine blk_alloc ?_ _)); exact BK102.out) hb); have n1_ := Aside0.mk (below_step (by repeat (first | (with_reducible first | exact HB.out | apply below_alloc | apply pw_below_drewN | apply below_drew1 | refine below_set ?_ GE102.out) | exact HB.out)) hb); clear BK102; clear HB; have BK102 := n0_; have HB := n1_; clear n0_ n1_; (try clear hb); (try clear hb2); (try clear hk); (try clear hi)))
      go_meet
      case rel => exact ⟨_, (!t106), (by first | rfl | (simp; done) | (simp [*]; done) | (simp [bne_nil_]; done)), H', ⟨by first | omega | exact Nat.le_refl _⟩, ⟨by (with_reducible repeat (first | refine blk_drewN ?_ _ | refine blk_drew ?_ | refine blk_alloc ?_ _)); exact BK102.out⟩, ⟨by repeat (first | (with_reducible first | exact HB.out | apply below_alloc | apply pw_below_drewN | apply below_drew1 | refine below_set ?_ GE102.out) | exact HB.out)⟩⟩
    · replace c5 := Bool.eq_false_iff.mpr c5
      subst c5
      have H1 : (semantic_ParseRedHatVersion.j0 k a0 t103 t104 true) = some (r1, r2, r3) := by rw [if_neg (show ¬ (false = true) by decide)] at H; exact H
      clear H
      have H := H1
      clear H1
      have H' := Aside0.mk H
      clear H
      go_wp2
      go_meet
      case rel => exact ⟨_, (true), (by first | rfl | (simp; done) | (simp [*]; done) | (simp [bne_nil_]; done)), H', ⟨by first | omega | exact Nat.le_refl _⟩, ⟨by (with_reducible repeat (first | refine blk_drewN ?_ _ | refine blk_drew ?_ | refine blk_alloc ?_ _)); exact BK102.out⟩, ⟨by repeat (first | (with_reducible first | exact HB.out | apply below_alloc | apply pw_below_drewN | apply below_drew1 | refine below_set ?_ GE102.out) | exact HB.out)⟩⟩
  case rest =>
    clear HC3
    try clear c1
    try clear p2
    try clear c4
    try clear c5
    obtain ⟨kq, x21_2, rfl, HA, HJ2, BK102, HB⟩ := hcut
    cases kq with
    | zero => exact absurd HA.out (by simp [semantic_ParseRedHatVersion.j0])
    | succ kj2 =>
      have H := HA.out
      clear HA
      simp only [semantic_ParseRedHatVersion.j0] at H
      have HC8 := Aside0.mk H
      clear H
      go_upto_if 21 with (fail)
      go_cut [3, 4] (fun v3 v4 wc => ∃ (kq : Nat) (x3_7 : ByteArray) (x4_7 : ByteArray), v3 = .string x3_7 ∧ v4 = .string x4_7 ∧ Aside0 (semantic_ParseRedHatVersion.j1 kq x3_7 x4_7 = some (r1, r2, r3)) ∧ Aside0 (kq ≤ kj2) ∧ Aside0 (wc.heap[gb102]? = some (.cells #[.string (⟨#[]⟩ : ByteArray), .string (⟨#[]⟩ : ByteArray), .string (⟨#[]⟩ : ByteArray)] 42 (0, 0))) ∧ Aside0 (Below w.heap.size w wc))
      case first =>
        have H := HC8.out
        clear HC8
        by_cases c9 : x21_2 = true
        · subst c9
          have H1 : (semantic_ParseRedHatVersion.j1 kj2 (⟨#[]⟩ : ByteArray) a0) = some (r1, r2, r3) := by rw [if_pos rfl] at H; exact H
          clear H
          have H := H1
          clear H1
          have H' := Aside0.mk H
          clear H
          go_wp2
          go_meet
          case rel => exact ⟨_, ((⟨#[]⟩ : ByteArray)), (a0), (by first | rfl | (simp; done) | (simp [*]; done) | (simp [bne_nil_]; done)), (by first | rfl | (simp; done) | (simp [*]; done) | (simp [bne_nil_]; done)), H', ⟨by have := HJ2.out; first | omega | exact Nat.le_refl _⟩, ⟨by (with_reducible repeat (first | refine blk_drewN ?_ _ | refine blk_drew ?_ | refine blk_alloc ?_ _)); exact BK102.out⟩, ⟨by repeat (first | (with_reducible first | exact HB.out | apply below_alloc | apply pw_below_drewN | apply below_drew1 | refine below_set ?_ GE102.out) | exact HB.out)⟩⟩
        · replace c9 := Bool.eq_false_iff.mpr c9
          subst c9
          have H1 : (semantic_ParseRedHatVersion.j1 kj2 t103 t104) = some (r1, r2, r3) := by rw [if_neg (show ¬ (false = true) by decide)] at H; exact H
          clear H
          have H := H1
          clear H1
          have H' := Aside0.mk H
          clear H
          go_wp2
          go_meet
          case rel => exact ⟨_, (t103), (t104), (by first | rfl | (simp; done) | (simp [*]; done) | (simp [bne_nil_]; done)), (by first | rfl | (simp; done) | (simp [*]; done) | (simp [bne_nil_]; done)), H', ⟨by have := HJ2.out; first | omega | exact Nat.le_refl _⟩, ⟨by (with_reducible repeat (first | refine blk_drewN ?_ _ | refine blk_drew ?_ | refine blk_alloc ?_ _)); exact BK102.out⟩, ⟨by repeat (first | (with_reducible first | exact HB.out | apply below_alloc | apply pw_below_drewN | apply below_drew1 | refine below_set ?_ GE102.out) | exact HB.out)⟩⟩
      case rest =>
        clear HC8
        try clear c1
        try clear p2
        try clear c4
        try clear c5
        try clear c9
        try clear p2
        obtain ⟨kq, x3_7, x4_7, rfl, rfl, HA, HJ7, BK102, HB⟩ := hcut
        cases kq with
        | zero => exact absurd HA.out (by simp [semantic_ParseRedHatVersion.j1])
        | succ kj7 =>
          have H := HA.out
          clear HA
          simp only [semantic_ParseRedHatVersion.j1] at H
          replace H := Option.bind_eq_some_iff.mp H
          obtain ⟨⟨t107, t108, t109⟩, A100, H⟩ := H
          replace H : (if t109 = true then (if 1 + t108.size ≤ 9223372036854775807 then (if x3_7.toList = ([] : List UInt8) then (some ((⟨#[48]⟩ : ByteArray), t107, (⟨#[45]⟩ : ByteArray) ++ t108)) else (some (x3_7, t107, (⟨#[45]⟩ : ByteArray) ++ t108))) else (none)) else (if x3_7.toList = ([] : List UInt8) then (some ((⟨#[48]⟩ : ByteArray), t107, t108)) else (some (x3_7, t107, t108)))) = some (r1, r2, r3) := H
          have A10 := Aside0.mk A100
          clear A100
          by_cases c11 : t109 = true
          · subst c11
            have H1 : (if 1 + t108.size ≤ 9223372036854775807 then (if x3_7.toList = ([] : List UInt8) then (some ((⟨#[48]⟩ : ByteArray), t107, (⟨#[45]⟩ : ByteArray) ++ t108)) else (some (x3_7, t107, (⟨#[45]⟩ : ByteArray) ++ t108))) else (none)) = some (r1, r2, r3) := by rw [if_pos rfl] at H; exact H
            clear H
            have H := H1
            clear H1
            by_cases c12 : 1 + t108.size ≤ 9223372036854775807
            · rw [if_pos c12] at H
              have c12b0 := eq_true c12
              have c12b1 : decide (1 + t108.size ≤ 9223372036854775807) = true := decide_eq_true c12
              try have c12b2 : (9223372036854775807 < 1 + t108.size) = False := eq_false (Nat.not_lt.2 c12)
              by_cases c13 : x3_7.toList = ([] : List UInt8)
              · rw [if_pos c13] at H
                have c13b0 : (x3_7.toList == ([] : List UInt8)) = true := beq_iff_eq.mpr c13
                have c13b1 : (x3_7.toList != ([] : List UInt8)) = false := bne_eq_false_iff_eq.mpr c13
                clear c13
                simp only [Option.some.injEq, Prod.mk.injEq] at H
                obtain ⟨rfl, rfl, rfl⟩ := H
                go_wp2_with (first | ((with_reducible refine gate_callee (f := 42) rfl ?_); refine goesL_ (some 25) rfl rfl Tryz.func42 (by kernel_rfl) rfl #[.string x4_7, .string (⟨#[45]⟩ : ByteArray)] rfl (by (try simp only [List.map_toArray, List.map_cons, List.map_nil]); first | done | rfl | (simp only [List.length_drop, List.length_take]; rfl)) ?_; (with_reducible refine (semantic_zzCut.calls kj7 x4_7 (⟨#[45]⟩ : ByteArray) t107 t108 true _ A10.out).mono ?_); rintro e w' ⟨rfl, ⟨nd, rfl⟩⟩; refine ⟨_, rfl, ?_⟩; (try (rw [drewN_self wc]; generalize hq_ : World.drewN wc _ = wc; have n0_ : Aside0 (wc.heap[gb102]? = some (.cells #[.string (⟨#[]⟩ : ByteArray), .string (⟨#[]⟩ : ByteArray), .string (⟨#[]⟩ : ByteArray)] 42 (0, 0))) := ⟨by rw [← hq_]; exact (by (with_reducible repeat (first | refine blk_drewN ?_ _ | refine blk_drew ?_ | refine blk_alloc ?_ _)); exact BK102.out)⟩; have n1_ : Aside0 (Below w.heap.size w wc) := ⟨by rw [← hq_]; exact (by repeat (first | (with_reducible first | exact HB.out | apply below_alloc | apply pw_below_drewN | apply below_drew1 | refine below_set ?_ GE102.out) | exact HB.out))⟩; clear BK102 HB hq_; have BK102 := n0_; have HB := n1_; clear n0_ n1_)); have hcz14_0 : wc.cell? ⟨gb102, 0, none⟩ = some (.string (⟨#[]⟩ : ByteArray)) := (blk_cell BK102.out 0).trans rfl; have hcz14_1 : wc.cell? ⟨gb102, 1, none⟩ = some (.string (⟨#[]⟩ : ByteArray)) := (blk_cell BK102.out 1).trans rfl; have hcz14_2 : wc.cell? ⟨gb102, 2, none⟩ = some (.string (⟨#[]⟩ : ByteArray)) := (blk_cell BK102.out 2).trans rfl; have hfz14_0 := blk_frozen BK102.out 0; have hfz14_1 := blk_frozen BK102.out 1; have hfz14_2 := blk_frozen BK102.out 2))
                refine bodyPost_ret (results_cell_row rfl _ _ gb102 42 #[.string (⟨#[48]⟩ : ByteArray), .string t107, .string ((⟨#[45]⟩ : ByteArray) ++ t108)] (0, 0) _ rfl (by (with_reducible repeat (first | refine blk_drewN ?_ _ | refine blk_drew ?_ | refine blk_alloc ?_ _)); refine blk_put (cs := #[.string (⟨#[48]⟩ : ByteArray), .string t107, .string (⟨#[]⟩ : ByteArray)]) ?_ 2 _ rfl; (with_reducible repeat (first | refine blk_drewN ?_ _ | refine blk_drew ?_ | refine blk_alloc ?_ _)); refine blk_put (cs := #[.string (⟨#[48]⟩ : ByteArray), .string (⟨#[]⟩ : ByteArray), .string (⟨#[]⟩ : ByteArray)]) ?_ 1 _ rfl; (with_reducible repeat (first | refine blk_drewN ?_ _ | refine blk_drew ?_ | refine blk_alloc ?_ _)); refine blk_put (cs := #[.string (⟨#[]⟩ : ByteArray), .string (⟨#[]⟩ : ByteArray), .string (⟨#[]⟩ : ByteArray)]) ?_ 0 _ rfl; (with_reducible repeat (first | refine blk_drewN ?_ _ | refine blk_drew ?_ | refine blk_alloc ?_ _)); exact BK102.out) Tryz.underlying42 rfl (by kernel_rfl)) rfl ?_
                exact ⟨by first | rfl | (simp [errW_none, errW_some] <;> rfl) | (simp [*, errW_none, errW_some] <;> rfl) | (simp [bne_nil_]; done), by repeat (first | (with_reducible first | exact HB.out | apply below_alloc | apply pw_below_drewN | apply below_drew1 | refine below_set ?_ GE102.out) | exact HB.out)⟩
              · rw [if_neg c13] at H
                have c13b0 : (x3_7.toList == ([] : List UInt8)) = false := beq_eq_false_iff_ne.mpr c13
                have c13b1 : (x3_7.toList != ([] : List UInt8)) = true := bne_iff_ne.mpr c13
                simp only [Option.some.injEq, Prod.mk.injEq] at H
                obtain ⟨rfl, rfl, rfl⟩ := H
                go_wp2_with (first | ((with_reducible refine gate_callee (f := 42) rfl ?_); refine goesL_ (some 25) rfl rfl Tryz.func42 (by kernel_rfl) rfl #[.string x4_7, .string (⟨#[45]⟩ : ByteArray)] rfl (by (try simp only [List.map_toArray, List.map_cons, List.map_nil]); first | done | rfl | (simp only [List.length_drop, List.length_take]; rfl)) ?_; (with_reducible refine (semantic_zzCut.calls kj7 x4_7 (⟨#[45]⟩ : ByteArray) t107 t108 true _ A10.out).mono ?_); rintro e w' ⟨rfl, ⟨nd, rfl⟩⟩; refine ⟨_, rfl, ?_⟩; (try (rw [drewN_self wc]; generalize hq_ : World.drewN wc _ = wc; have n0_ : Aside0 (wc.heap[gb102]? = some (.cells #[.string (⟨#[]⟩ : ByteArray), .string (⟨#[]⟩ : ByteArray), .string (⟨#[]⟩ : ByteArray)] 42 (0, 0))) := ⟨by rw [← hq_]; exact (by (with_reducible repeat (first | refine blk_drewN ?_ _ | refine blk_drew ?_ | refine blk_alloc ?_ _)); exact BK102.out)⟩; have n1_ : Aside0 (Below w.heap.size w wc) := ⟨by rw [← hq_]; exact (by repeat (first | (with_reducible first | exact HB.out | apply below_alloc | apply pw_below_drewN | apply below_drew1 | refine below_set ?_ GE102.out) | exact HB.out))⟩; clear BK102 HB hq_; have BK102 := n0_; have HB := n1_; clear n0_ n1_)); have hcz15_0 : wc.cell? ⟨gb102, 0, none⟩ = some (.string (⟨#[]⟩ : ByteArray)) := (blk_cell BK102.out 0).trans rfl; have hcz15_1 : wc.cell? ⟨gb102, 1, none⟩ = some (.string (⟨#[]⟩ : ByteArray)) := (blk_cell BK102.out 1).trans rfl; have hcz15_2 : wc.cell? ⟨gb102, 2, none⟩ = some (.string (⟨#[]⟩ : ByteArray)) := (blk_cell BK102.out 2).trans rfl; have hfz15_0 := blk_frozen BK102.out 0; have hfz15_1 := blk_frozen BK102.out 1; have hfz15_2 := blk_frozen BK102.out 2))
                refine bodyPost_ret (results_cell_row rfl _ _ gb102 42 #[.string x3_7, .string t107, .string ((⟨#[45]⟩ : ByteArray) ++ t108)] (0, 0) _ rfl (by (with_reducible repeat (first | refine blk_drewN ?_ _ | refine blk_drew ?_ | refine blk_alloc ?_ _)); refine blk_put (cs := #[.string x3_7, .string t107, .string (⟨#[]⟩ : ByteArray)]) ?_ 2 _ rfl; (with_reducible repeat (first | refine blk_drewN ?_ _ | refine blk_drew ?_ | refine blk_alloc ?_ _)); refine blk_put (cs := #[.string x3_7, .string (⟨#[]⟩ : ByteArray), .string (⟨#[]⟩ : ByteArray)]) ?_ 1 _ rfl; (with_reducible repeat (first | refine blk_drewN ?_ _ | refine blk_drew ?_ | refine blk_alloc ?_ _)); refine blk_put (cs := #[.string (⟨#[]⟩ : ByteArray), .string (⟨#[]⟩ : ByteArray), .string (⟨#[]⟩ : ByteArray)]) ?_ 0 _ rfl; (with_reducible repeat (first | refine blk_drewN ?_ _ | refine blk_drew ?_ | refine blk_alloc ?_ _)); exact BK102.out) Tryz.underlying42 rfl (by kernel_rfl)) rfl ?_
                exact ⟨by first | rfl | (simp [errW_none, errW_some] <;> rfl) | (simp [*, errW_none, errW_some] <;> rfl) | (simp [bne_nil_]; done), by repeat (first | (with_reducible first | exact HB.out | apply below_alloc | apply pw_below_drewN | apply below_drew1 | refine below_set ?_ GE102.out) | exact HB.out)⟩
            · rw [if_neg c12] at H
              exact absurd H (by simp)
          · replace c11 := Bool.eq_false_iff.mpr c11
            subst c11
            have H1 : (if x3_7.toList = ([] : List UInt8) then (some ((⟨#[48]⟩ : ByteArray), t107, t108)) else (some (x3_7, t107, t108))) = some (r1, r2, r3) := by rw [if_neg (show ¬ (false = true) by decide)] at H; exact H
            clear H
            have H := H1
            clear H1
            by_cases c16 : x3_7.toList = ([] : List UInt8)
            · rw [if_pos c16] at H
              have c16b0 : (x3_7.toList == ([] : List UInt8)) = true := beq_iff_eq.mpr c16
              have c16b1 : (x3_7.toList != ([] : List UInt8)) = false := bne_eq_false_iff_eq.mpr c16
              clear c16
              simp only [Option.some.injEq, Prod.mk.injEq] at H
              obtain ⟨rfl, rfl, rfl⟩ := H
              go_wp2_with (first | ((with_reducible refine gate_callee (f := 42) rfl ?_); refine goesL_ (some 25) rfl rfl Tryz.func42 (by kernel_rfl) rfl #[.string x4_7, .string (⟨#[45]⟩ : ByteArray)] rfl (by (try simp only [List.map_toArray, List.map_cons, List.map_nil]); first | done | rfl | (simp only [List.length_drop, List.length_take]; rfl)) ?_; (with_reducible refine (semantic_zzCut.calls kj7 x4_7 (⟨#[45]⟩ : ByteArray) t107 t108 false _ A10.out).mono ?_); rintro e w' ⟨rfl, ⟨nd, rfl⟩⟩; refine ⟨_, rfl, ?_⟩; (try (rw [drewN_self wc]; generalize hq_ : World.drewN wc _ = wc; have n0_ : Aside0 (wc.heap[gb102]? = some (.cells #[.string (⟨#[]⟩ : ByteArray), .string (⟨#[]⟩ : ByteArray), .string (⟨#[]⟩ : ByteArray)] 42 (0, 0))) := ⟨by rw [← hq_]; exact (by (with_reducible repeat (first | refine blk_drewN ?_ _ | refine blk_drew ?_ | refine blk_alloc ?_ _)); exact BK102.out)⟩; have n1_ : Aside0 (Below w.heap.size w wc) := ⟨by rw [← hq_]; exact (by repeat (first | (with_reducible first | exact HB.out | apply below_alloc | apply pw_below_drewN | apply below_drew1 | refine below_set ?_ GE102.out) | exact HB.out))⟩; clear BK102 HB hq_; have BK102 := n0_; have HB := n1_; clear n0_ n1_)); have hcz17_0 : wc.cell? ⟨gb102, 0, none⟩ = some (.string (⟨#[]⟩ : ByteArray)) := (blk_cell BK102.out 0).trans rfl; have hcz17_1 : wc.cell? ⟨gb102, 1, none⟩ = some (.string (⟨#[]⟩ : ByteArray)) := (blk_cell BK102.out 1).trans rfl; have hcz17_2 : wc.cell? ⟨gb102, 2, none⟩ = some (.string (⟨#[]⟩ : ByteArray)) := (blk_cell BK102.out 2).trans rfl; have hfz17_0 := blk_frozen BK102.out 0; have hfz17_1 := blk_frozen BK102.out 1; have hfz17_2 := blk_frozen BK102.out 2))
              refine bodyPost_ret (results_cell_row rfl _ _ gb102 42 #[.string (⟨#[48]⟩ : ByteArray), .string t107, .string t108] (0, 0) _ rfl (by (with_reducible repeat (first | refine blk_drewN ?_ _ | refine blk_drew ?_ | refine blk_alloc ?_ _)); refine blk_put (cs := #[.string (⟨#[48]⟩ : ByteArray), .string t107, .string (⟨#[]⟩ : ByteArray)]) ?_ 2 _ rfl; (with_reducible repeat (first | refine blk_drewN ?_ _ | refine blk_drew ?_ | refine blk_alloc ?_ _)); refine blk_put (cs := #[.string (⟨#[48]⟩ : ByteArray), .string (⟨#[]⟩ : ByteArray), .string (⟨#[]⟩ : ByteArray)]) ?_ 1 _ rfl; (with_reducible repeat (first | refine blk_drewN ?_ _ | refine blk_drew ?_ | refine blk_alloc ?_ _)); refine blk_put (cs := #[.string (⟨#[]⟩ : ByteArray), .string (⟨#[]⟩ : ByteArray), .string (⟨#[]⟩ : ByteArray)]) ?_ 0 _ rfl; (with_reducible repeat (first | refine blk_drewN ?_ _ | refine blk_drew ?_ | refine blk_alloc ?_ _)); exact BK102.out) Tryz.underlying42 rfl (by kernel_rfl)) rfl ?_
              exact ⟨by first | rfl | (simp [errW_none, errW_some] <;> rfl) | (simp [*, errW_none, errW_some] <;> rfl) | (simp [bne_nil_]; done), by repeat (first | (with_reducible first | exact HB.out | apply below_alloc | apply pw_below_drewN | apply below_drew1 | refine below_set ?_ GE102.out) | exact HB.out)⟩
            · rw [if_neg c16] at H
              have c16b0 : (x3_7.toList == ([] : List UInt8)) = false := beq_eq_false_iff_ne.mpr c16
              have c16b1 : (x3_7.toList != ([] : List UInt8)) = true := bne_iff_ne.mpr c16
              simp only [Option.some.injEq, Prod.mk.injEq] at H
              obtain ⟨rfl, rfl, rfl⟩ := H
              go_wp2_with (first | ((with_reducible refine gate_callee (f := 42) rfl ?_); refine goesL_ (some 25) rfl rfl Tryz.func42 (by kernel_rfl) rfl #[.string x4_7, .string (⟨#[45]⟩ : ByteArray)] rfl (by (try simp only [List.map_toArray, List.map_cons, List.map_nil]); first | done | rfl | (simp only [List.length_drop, List.length_take]; rfl)) ?_; (with_reducible refine (semantic_zzCut.calls kj7 x4_7 (⟨#[45]⟩ : ByteArray) t107 t108 false _ A10.out).mono ?_); rintro e w' ⟨rfl, ⟨nd, rfl⟩⟩; refine ⟨_, rfl, ?_⟩; (try (rw [drewN_self wc]; generalize hq_ : World.drewN wc _ = wc; have n0_ : Aside0 (wc.heap[gb102]? = some (.cells #[.string (⟨#[]⟩ : ByteArray), .string (⟨#[]⟩ : ByteArray), .string (⟨#[]⟩ : ByteArray)] 42 (0, 0))) := ⟨by rw [← hq_]; exact (by (with_reducible repeat (first | refine blk_drewN ?_ _ | refine blk_drew ?_ | refine blk_alloc ?_ _)); exact BK102.out)⟩; have n1_ : Aside0 (Below w.heap.size w wc) := ⟨by rw [← hq_]; exact (by repeat (first | (with_reducible first | exact HB.out | apply below_alloc | apply pw_below_drewN | apply below_drew1 | refine below_set ?_ GE102.out) | exact HB.out))⟩; clear BK102 HB hq_; have BK102 := n0_; have HB := n1_; clear n0_ n1_)); have hcz18_0 : wc.cell? ⟨gb102, 0, none⟩ = some (.string (⟨#[]⟩ : ByteArray)) := (blk_cell BK102.out 0).trans rfl; have hcz18_1 : wc.cell? ⟨gb102, 1, none⟩ = some (.string (⟨#[]⟩ : ByteArray)) := (blk_cell BK102.out 1).trans rfl; have hcz18_2 : wc.cell? ⟨gb102, 2, none⟩ = some (.string (⟨#[]⟩ : ByteArray)) := (blk_cell BK102.out 2).trans rfl; have hfz18_0 := blk_frozen BK102.out 0; have hfz18_1 := blk_frozen BK102.out 1; have hfz18_2 := blk_frozen BK102.out 2))
              refine bodyPost_ret (results_cell_row rfl _ _ gb102 42 #[.string x3_7, .string t107, .string t108] (0, 0) _ rfl (by (with_reducible repeat (first | refine blk_drewN ?_ _ | refine blk_drew ?_ | refine blk_alloc ?_ _)); refine blk_put (cs := #[.string x3_7, .string t107, .string (⟨#[]⟩ : ByteArray)]) ?_ 2 _ rfl; (with_reducible repeat (first | refine blk_drewN ?_ _ | refine blk_drew ?_ | refine blk_alloc ?_ _)); refine blk_put (cs := #[.string x3_7, .string (⟨#[]⟩ : ByteArray), .string (⟨#[]⟩ : ByteArray)]) ?_ 1 _ rfl; (with_reducible repeat (first | refine blk_drewN ?_ _ | refine blk_drew ?_ | refine blk_alloc ?_ _)); refine blk_put (cs := #[.string (⟨#[]⟩ : ByteArray), .string (⟨#[]⟩ : ByteArray), .string (⟨#[]⟩ : ByteArray)]) ?_ 0 _ rfl; (with_reducible repeat (first | refine blk_drewN ?_ _ | refine blk_drew ?_ | refine blk_alloc ?_ _)); exact BK102.out) Tryz.underlying42 rfl (by kernel_rfl)) rfl ?_
              exact ⟨by first | rfl | (simp [errW_none, errW_some] <;> rfl) | (simp [*, errW_none, errW_some] <;> rfl) | (simp [bne_nil_]; done), by repeat (first | (with_reducible first | exact HB.out | apply below_alloc | apply pw_below_drewN | apply below_drew1 | refine below_set ?_ GE102.out) | exact HB.out)⟩

-- LEFT OUT: function 129

-- LEFT OUT: function 114

-- LEFT OUT: function 130

-- LEFT OUT: function 115

-- LEFT OUT: function 88

-- LEFT OUT: function 89

/-! ### semantic_isASCIILetter: function 108 -/
def semantic_isASCIILetter.f (a0 : Int) : Option (Bool) := if a0 ≥ 65 then (if a0 ≤ 90 then (some true) else (if a0 ≥ 97 then (some (decide (a0 ≤ 122))) else (some false))) else (if a0 ≥ 97 then (some (decide (a0 ≤ 122))) else (some false))
set_option maxHeartbeats 8000000 in
set_option maxRecDepth 100000 in
theorem semantic_isASCIILetter.calls (a0 : Int) (r : Bool) (w : World) (h : semantic_isASCIILetter.f a0 = some r) :
    Calls Tryz.prog 108 #[.int .i32 a0] w fun e w' => e = .returned (.bool r) ∧ Drawn0 w w' := by
  have H : (if a0 ≥ 65 then (if a0 ≤ 90 then (some true) else (if a0 ≥ 97 then (some (decide (a0 ≤ 122))) else (some false))) else (if a0 ≥ 97 then (some (decide (a0 ≤ 122))) else (some false))) = some r := h
  clear h
  by_cases c2 : a0 ≥ 65
  · rw [if_pos c2] at H
    have c2b0 : decide (65 ≤ a0) = true := decide_eq_true c2
    clear c2
    by_cases c3 : a0 ≤ 90
    · rw [if_pos c3] at H
      have c3b0 : decide (a0 ≤ 90) = true := decide_eq_true c3
      clear c3
      obtain rfl := Option.some.inj H
      go_enter Tryz.func108, Tryz.ntmps108
      go_wp2
      go_ret
      exact ⟨by first | rfl | (simp; done) | (simp [*]; done) | (simp [bne_nil_]; done), by repeat (first | exact Drawn0.refl _ | apply Drawn0.step)⟩
    · rw [if_neg c3] at H
      have c3b0 : decide (a0 ≤ 90) = false := decide_eq_false c3
      clear c3
      by_cases c4 : a0 ≥ 97
      · rw [if_pos c4] at H
        have c4b0 : decide (97 ≤ a0) = true := decide_eq_true c4
        clear c4
        obtain rfl := Option.some.inj H
        go_enter Tryz.func108, Tryz.ntmps108
        go_wp2
        go_ret
        exact ⟨by first | rfl | (simp; done) | (simp [*]; done) | (simp [bne_nil_]; done), by repeat (first | exact Drawn0.refl _ | apply Drawn0.step)⟩
      · rw [if_neg c4] at H
        have c4b0 : decide (97 ≤ a0) = false := decide_eq_false c4
        clear c4
        obtain rfl := Option.some.inj H
        go_enter Tryz.func108, Tryz.ntmps108
        go_wp2
        go_ret
        exact ⟨by first | rfl | (simp; done) | (simp [*]; done) | (simp [bne_nil_]; done), by repeat (first | exact Drawn0.refl _ | apply Drawn0.step)⟩
  · rw [if_neg c2] at H
    have c2b0 : decide (65 ≤ a0) = false := decide_eq_false c2
    clear c2
    by_cases c5 : a0 ≥ 97
    · rw [if_pos c5] at H
      have c5b0 : decide (97 ≤ a0) = true := decide_eq_true c5
      clear c5
      obtain rfl := Option.some.inj H
      go_enter Tryz.func108, Tryz.ntmps108
      go_wp2
      go_ret
      exact ⟨by first | rfl | (simp; done) | (simp [*]; done) | (simp [bne_nil_]; done), by repeat (first | exact Drawn0.refl _ | apply Drawn0.step)⟩
    · rw [if_neg c5] at H
      have c5b0 : decide (97 ≤ a0) = false := decide_eq_false c5
      clear c5
      obtain rfl := Option.some.inj H
      go_enter Tryz.func108, Tryz.ntmps108
      go_wp2
      go_ret
      exact ⟨by first | rfl | (simp; done) | (simp [*]; done) | (simp [bne_nil_]; done), by repeat (first | exact Drawn0.refl _ | apply Drawn0.step)⟩

/-! ### semantic_shouldBeTrimmed: function 107 -/
def semantic_shouldBeTrimmed.f (a0 : Int) : Option (Bool) := (semantic_isASCIILetter.f a0).bind fun t110 => (if t110 = true then (some false) else ((semantic_isASCIIDigit.f a0).bind fun t111 => (if t111 = true then (some false) else (if a0 = 126 then (some false) else (some (a0 != 94))))))
set_option maxHeartbeats 8000000 in
set_option maxRecDepth 100000 in
theorem semantic_shouldBeTrimmed.calls (a0 : Int) (r : Bool) (w : World) (h : semantic_shouldBeTrimmed.f a0 = some r) :
    Calls Tryz.prog 107 #[.int .i32 a0] w fun e w' => e = .returned (.bool r) ∧ Drawn0 w w' := by
  have H : ((semantic_isASCIILetter.f a0).bind fun t110 => (if t110 = true then (some false) else ((semantic_isASCIIDigit.f a0).bind fun t111 => (if t111 = true then (some false) else (if a0 = 126 then (some false) else (some (a0 != 94))))))) = some r := h
  clear h
  replace H := Option.bind_eq_some_iff.mp H
  obtain ⟨t110, A20, H⟩ := H
  replace H : (if t110 = true then (some false) else ((semantic_isASCIIDigit.f a0).bind fun t111 => (if t111 = true then (some false) else (if a0 = 126 then (some false) else (some (a0 != 94)))))) = some r := H
  have A2 := Aside0.mk A20
  clear A20
  by_cases c3 : t110 = true
  · subst c3
    have H1 : (some false) = some r := by rw [if_pos rfl] at H; exact H
    clear H
    have H := H1
    clear H1
    obtain rfl := Option.some.inj H
    go_enter Tryz.func107, Tryz.ntmps107
    go_wp2_with (first | ((with_reducible refine gate_callee (f := 108) rfl ?_); refine goesL_ (some 4) rfl rfl Tryz.func108 (by kernel_rfl) rfl #[.int .i32 a0] rfl (by (try simp only [List.map_toArray, List.map_cons, List.map_nil]); first | done | rfl | (simp only [List.length_drop, List.length_take]; rfl)) ?_; (with_reducible refine (semantic_isASCIILetter.calls a0 true _ A2.out).mono ?_); rintro e w' ⟨rfl, ⟨nd, rfl⟩⟩; refine ⟨_, rfl, ?_⟩))
    go_ret
    exact ⟨by first | rfl | (simp; done) | (simp [*]; done) | (simp [bne_nil_]; done), by repeat (first | exact Drawn0.refl _ | apply Drawn0.step)⟩
  · replace c3 := Bool.eq_false_iff.mpr c3
    subst c3
    have H1 : ((semantic_isASCIIDigit.f a0).bind fun t111 => (if t111 = true then (some false) else (if a0 = 126 then (some false) else (some (a0 != 94))))) = some r := by rw [if_neg (show ¬ (false = true) by decide)] at H; exact H
    clear H
    have H := H1
    clear H1
    replace H := Option.bind_eq_some_iff.mp H
    obtain ⟨t111, A40, H⟩ := H
    replace H : (if t111 = true then (some false) else (if a0 = 126 then (some false) else (some (a0 != 94)))) = some r := H
    have A4 := Aside0.mk A40
    clear A40
    by_cases c5 : t111 = true
    · subst c5
      have H1 : (some false) = some r := by rw [if_pos rfl] at H; exact H
      clear H
      have H := H1
      clear H1
      obtain rfl := Option.some.inj H
      go_enter Tryz.func107, Tryz.ntmps107
      go_wp2_with (first | ((with_reducible refine gate_callee (f := 108) rfl ?_); refine goesL_ (some 4) rfl rfl Tryz.func108 (by kernel_rfl) rfl #[.int .i32 a0] rfl (by (try simp only [List.map_toArray, List.map_cons, List.map_nil]); first | done | rfl | (simp only [List.length_drop, List.length_take]; rfl)) ?_; (with_reducible refine (semantic_isASCIILetter.calls a0 false _ A2.out).mono ?_); rintro e w' ⟨rfl, ⟨nd, rfl⟩⟩; refine ⟨_, rfl, ?_⟩) | (go_at_call 80; (with_reducible refine (semantic_isASCIIDigit.calls a0 true _ A4.out).mono ?_); rintro e w' ⟨rfl, ⟨nd, rfl⟩⟩))
      go_ret
      exact ⟨by first | rfl | (simp; done) | (simp [*]; done) | (simp [bne_nil_]; done), by repeat (first | exact Drawn0.refl _ | apply Drawn0.step)⟩
    · replace c5 := Bool.eq_false_iff.mpr c5
      subst c5
      have H1 : (if a0 = 126 then (some false) else (some (a0 != 94))) = some r := by rw [if_neg (show ¬ (false = true) by decide)] at H; exact H
      clear H
      have H := H1
      clear H1
      by_cases c6 : a0 = 126
      · rw [if_pos c6] at H
        have c6b0 : (a0 == 126) = true := beq_iff_eq.mpr c6
        have c6b1 : (a0 != 126) = false := bne_eq_false_iff_eq.mpr c6
        clear c6
        obtain rfl := Option.some.inj H
        go_enter Tryz.func107, Tryz.ntmps107
        go_wp2_with (first | ((with_reducible refine gate_callee (f := 108) rfl ?_); refine goesL_ (some 4) rfl rfl Tryz.func108 (by kernel_rfl) rfl #[.int .i32 a0] rfl (by (try simp only [List.map_toArray, List.map_cons, List.map_nil]); first | done | rfl | (simp only [List.length_drop, List.length_take]; rfl)) ?_; (with_reducible refine (semantic_isASCIILetter.calls a0 false _ A2.out).mono ?_); rintro e w' ⟨rfl, ⟨nd, rfl⟩⟩; refine ⟨_, rfl, ?_⟩) | (go_at_call 80; (with_reducible refine (semantic_isASCIIDigit.calls a0 false _ A4.out).mono ?_); rintro e w' ⟨rfl, ⟨nd, rfl⟩⟩))
        go_ret
        exact ⟨by first | rfl | (simp; done) | (simp [*]; done) | (simp [bne_nil_]; done), by repeat (first | exact Drawn0.refl _ | apply Drawn0.step)⟩
      · rw [if_neg c6] at H
        have c6b0 : (a0 == 126) = false := beq_eq_false_iff_ne.mpr c6
        have c6b1 : (a0 != 126) = true := bne_iff_ne.mpr c6
        obtain rfl := Option.some.inj H
        go_enter Tryz.func107, Tryz.ntmps107
        go_wp2_with (first | ((with_reducible refine gate_callee (f := 108) rfl ?_); refine goesL_ (some 4) rfl rfl Tryz.func108 (by kernel_rfl) rfl #[.int .i32 a0] rfl (by (try simp only [List.map_toArray, List.map_cons, List.map_nil]); first | done | rfl | (simp only [List.length_drop, List.length_take]; rfl)) ?_; (with_reducible refine (semantic_isASCIILetter.calls a0 false _ A2.out).mono ?_); rintro e w' ⟨rfl, ⟨nd, rfl⟩⟩; refine ⟨_, rfl, ?_⟩) | (go_at_call 80; (with_reducible refine (semantic_isASCIIDigit.calls a0 false _ A4.out).mono ?_); rintro e w' ⟨rfl, ⟨nd, rfl⟩⟩))
        go_ret
        exact ⟨by first | rfl | (simp; done) | (simp [*]; done) | (simp [bne_nil_]; done), by repeat (first | exact Drawn0.refl _ | apply Drawn0.step)⟩

-- LEFT OUT: function 109

/-! ### semantic_zzInSet: function 125 -/
def semantic_zzInSet.f (a0 : Int) (a1 : ByteArray) : Option (Bool) := none
set_option maxHeartbeats 8000000 in
set_option maxRecDepth 100000 in
theorem semantic_zzInSet.calls (a0 : Int) (a1 : ByteArray) (r : Bool) (w : World) (h : semantic_zzInSet.f a0 a1 = some r) :
    Calls Tryz.prog 125 #[.int .i32 a0, .string a1] w fun e w' => e = .returned (.bool r) ∧ Drawn0 w w' := by
  have H : (none) = some r := h
  clear h
  exact absurd H (by simp)

/-! ### semantic_zzTrimLeft: function 110 -/
def semantic_zzTrimLeft.f (a0 : ByteArray) (a1 : ByteArray) : Option (ByteArray) := none
set_option maxHeartbeats 8000000 in
set_option maxRecDepth 100000 in
theorem semantic_zzTrimLeft.calls (a0 : ByteArray) (a1 : ByteArray) (r : ByteArray) (w : World) (h : semantic_zzTrimLeft.f a0 a1 = some r) :
    Calls Tryz.prog 110 #[.string a0, .string a1] w fun e w' => e = .returned (.string r) ∧ Drawn0 w w' := by
  have H : (none) = some r := h
  clear h
  exact absurd H (by simp)

-- LEFT OUT: function 132

-- LEFT OUT: function 126

-- LEFT OUT: function 111

-- GIVEN: function 81 (semantic_compareRedHatComponents)

/-! ### semantic_RedHatVersion_compare: function 44 -/
def semantic_RedHatVersion_compare.f (a0_0 : ByteArray) (a0_1 : ByteArray) (a0_2 : ByteArray) (a1_0 : ByteArray) (a1_1 : ByteArray) (a1_2 : ByteArray) : Option (Int) := (Giv.semantic_compareRedHatComponents.f a0_0 a1_0).bind fun t114 => (if t114 = 0 then ((Giv.semantic_compareRedHatComponents.f a0_1 a1_1).bind fun t115 => (if t115 = 0 then ((Giv.semantic_compareRedHatComponents.f a0_2 a1_2).bind fun t116 => (if t116 = 0 then (some 0) else (some t116))) else (some t115))) else (some t114))
set_option maxHeartbeats 8000000 in
set_option maxRecDepth 100000 in
theorem semantic_RedHatVersion_compare.calls (a0_0 : ByteArray) (a0_1 : ByteArray) (a0_2 : ByteArray) (a1_0 : ByteArray) (a1_1 : ByteArray) (a1_2 : ByteArray) (r : Int) (w : World) (h : semantic_RedHatVersion_compare.f a0_0 a0_1 a0_2 a1_0 a1_1 a1_2 = some r) :
    Calls Tryz.prog 44 #[.agg #[.string a0_0, .string a0_1, .string a0_2], .agg #[.string a1_0, .string a1_1, .string a1_2]] w fun e w' => e = .returned (.int .i64 r) ∧ Below w.heap.size w w' := by
  have hu42 := Tryz.underlying42
  have HB := Aside0.mk (Below.refl w.heap.size w)
  have H : ((Giv.semantic_compareRedHatComponents.f a0_0 a1_0).bind fun t114 => (if t114 = 0 then ((Giv.semantic_compareRedHatComponents.f a0_1 a1_1).bind fun t115 => (if t115 = 0 then ((Giv.semantic_compareRedHatComponents.f a0_2 a1_2).bind fun t116 => (if t116 = 0 then (some 0) else (some t116))) else (some t115))) else (some t114))) = some r := h
  clear h
  replace H := Option.bind_eq_some_iff.mp H
  obtain ⟨t114, A30, H⟩ := H
  replace H : (if t114 = 0 then ((Giv.semantic_compareRedHatComponents.f a0_1 a1_1).bind fun t115 => (if t115 = 0 then ((Giv.semantic_compareRedHatComponents.f a0_2 a1_2).bind fun t116 => (if t116 = 0 then (some 0) else (some t116))) else (some t115))) else (some t114)) = some r := H
  have A3 := Aside0.mk A30
  clear A30
  by_cases c4 : t114 = 0
  · rw [if_pos c4] at H
    have c4b0 : (t114 == 0) = true := beq_iff_eq.mpr c4
    have c4b1 : (t114 != 0) = false := bne_eq_false_iff_eq.mpr c4
    clear c4
    replace H := Option.bind_eq_some_iff.mp H
    obtain ⟨t115, A50, H⟩ := H
    replace H : (if t115 = 0 then ((Giv.semantic_compareRedHatComponents.f a0_2 a1_2).bind fun t116 => (if t116 = 0 then (some 0) else (some t116))) else (some t115)) = some r := H
    have A5 := Aside0.mk A50
    clear A50
    by_cases c6 : t115 = 0
    · rw [if_pos c6] at H
      have c6b0 : (t115 == 0) = true := beq_iff_eq.mpr c6
      have c6b1 : (t115 != 0) = false := bne_eq_false_iff_eq.mpr c6
      clear c6
      replace H := Option.bind_eq_some_iff.mp H
      obtain ⟨t116, A70, H⟩ := H
      replace H : (if t116 = 0 then (some 0) else (some t116)) = some r := H
      have A7 := Aside0.mk A70
      clear A70
      by_cases c8 : t116 = 0
      · rw [if_pos c8] at H
        have c8b0 : (t116 == 0) = true := beq_iff_eq.mpr c8
        have c8b1 : (t116 != 0) = false := bne_eq_false_iff_eq.mpr c8
        clear c8
        obtain rfl := Option.some.inj H
        go_enter Tryz.func44, Tryz.ntmps44
        go_wp2_with (first | ((with_reducible refine gate_dst (N := 2) rfl ?_); refine box_event ?hg (N := 2) ?hd (cs := #[.string a0_0, .string a0_1, .string a0_2]) (t := 42) ?hr ?_; (case hd => rfl); (case hg => rfl); (case hr => first | (go_simp; done) | (go_simp; rfl)); intro gb112 hg w9 hbox hb; have n0_ := Aside0.mk (below_step (by repeat (first | (with_reducible first | exact HB.out | apply below_alloc | apply pw_below_drewN | apply below_drew1) | exact HB.out)) hb); have n1_ := Aside0.mk (hbox); have n2_ := Aside0.mk ((by rw [hg]; exact (below_size (by repeat (first | (with_reducible first | exact HB.out | apply below_alloc | apply pw_below_drewN | apply below_drew1) | exact HB.out))) : w.heap.size ≤ gb112)); have n3_ := Aside0.mk ((by rw [hg]; exact (below_size (by repeat (first | (with_reducible first | exact HB.out | apply below_alloc | apply pw_below_drewN | apply below_drew1) | exact HB.out))) : w.heap.size ≤ gb112)); clear HB; have HB := n0_; have BK112 := n1_; have GW112 := n2_; have GE112 := n3_; clear n0_ n1_ n2_ n3_; clear hb hbox hg) | ((with_reducible refine gate_dst (N := 3) rfl ?_); refine box_event ?hg (N := 3) ?hd (cs := #[.string a1_0, .string a1_1, .string a1_2]) (t := 42) ?hr ?_; (case hd => rfl); (case hg => rfl); (case hr => first | (go_simp; done) | (go_simp; rfl)); intro gb113 hg w10 hbox hb; have n0_ := Aside0.mk (blk_below (g := gb112) (o := .cells #[.string a0_0, .string a0_1, .string a0_2] 42 (0, 0)) (by (with_reducible repeat (first | refine blk_drewN ?_ _ | refine blk_drew ?_ | refine blk_alloc ?_ _)); exact BK112.out) hb); have n1_ := Aside0.mk (below_step (by repeat (first | (with_reducible first | exact HB.out | apply below_alloc | apply pw_below_drewN | apply below_drew1 | refine below_set ?_ GE112.out) | exact HB.out)) hb); have n2_ := Aside0.mk (hbox); have n3_ := Aside0.mk ((by rw [hg]; exact (below_size (by repeat (first | (with_reducible first | exact HB.out | apply below_alloc | apply pw_below_drewN | apply below_drew1 | refine below_set ?_ GE112.out) | exact HB.out))) : w.heap.size ≤ gb113)); have n4_ := Aside0.mk ((by rw [hg]; exact (below_size (by repeat (first | (with_reducible first | exact HB.out | apply below_alloc | apply pw_below_drewN | apply below_drew1 | refine below_set ?_ GE112.out) | exact HB.out))) : w.heap.size ≤ gb113)); have n5_ := Aside0.mk ((by rw [hg]; exact Nat.ne_of_lt (blk_lt (g := gb112) (o := .cells #[.string a0_0, .string a0_1, .string a0_2] 42 (0, 0)) (by (with_reducible repeat (first | refine blk_drewN ?_ _ | refine blk_drew ?_ | refine blk_alloc ?_ _)); exact BK112.out)) : gb112 ≠ gb113)); have n6_ := Aside0.mk ((by rw [hg]; exact Nat.ne_of_gt (blk_lt (g := gb112) (o := .cells #[.string a0_0, .string a0_1, .string a0_2] 42 (0, 0)) (by (with_reducible repeat (first | refine blk_drewN ?_ _ | refine blk_drew ?_ | refine blk_alloc ?_ _)); exact BK112.out)) : gb113 ≠ gb112)); clear BK112; clear HB; have BK112 := n0_; have HB := n1_; have BK113 := n2_; have GW113 := n3_; have GE113 := n4_; have NB112_113 := n5_; have NB113_112 := n6_; clear n0_ n1_ n2_ n3_ n4_ n5_ n6_; clear hb hbox hg; have hnb11 := NB112_113.out; have hnc11 := NB113_112.out; have hcz12_0 : w10.cell? ⟨gb112, 0, none⟩ = some (.string a0_0) := (blk_cell BK112.out 0).trans rfl; have hcz12_1 : w10.cell? ⟨gb112, 1, none⟩ = some (.string a0_1) := (blk_cell BK112.out 1).trans rfl; have hcz12_2 : w10.cell? ⟨gb112, 2, none⟩ = some (.string a0_2) := (blk_cell BK112.out 2).trans rfl; have hfz12_0 := blk_frozen BK112.out 0; have hfz12_1 := blk_frozen BK112.out 1; have hfz12_2 := blk_frozen BK112.out 2; have hcz13_0 : w10.cell? ⟨gb113, 0, none⟩ = some (.string a1_0) := (blk_cell BK113.out 0).trans rfl; have hcz13_1 : w10.cell? ⟨gb113, 1, none⟩ = some (.string a1_1) := (blk_cell BK113.out 1).trans rfl; have hcz13_2 : w10.cell? ⟨gb113, 2, none⟩ = some (.string a1_2) := (blk_cell BK113.out 2).trans rfl; have hfz13_0 := blk_frozen BK113.out 0; have hfz13_1 := blk_frozen BK113.out 1; have hfz13_2 := blk_frozen BK113.out 2) | ((with_reducible refine gate_callee (f := 81) rfl ?_); refine goesL_ (some 12) rfl rfl Tryz.func81 (by kernel_rfl) rfl #[.string a0_0, .string a1_0] rfl (by (try simp only [List.map_toArray, List.map_cons, List.map_nil]); first | done | rfl | (simp only [List.length_drop, List.length_take]; rfl)) ?_; (with_reducible refine (Giv.semantic_compareRedHatComponents.calls a0_0 a1_0 t114 _ A3.out).mono ?_); rintro e w14 ⟨rfl, hb⟩; refine ⟨_, rfl, ?_⟩; have n0_ := Aside0.mk (blk_below (g := gb112) (o := .cells #[.string a0_0, .string a0_1, .string a0_2] 42 (0, 0)) (by (with_reducible repeat (first | refine blk_drewN ?_ _ | refine blk_drew ?_ | refine blk_alloc ?_ _)); exact BK112.out) hb); have n1_ := Aside0.mk (blk_below (g := gb113) (o := .cells #[.string a1_0, .string a1_1, .string a1_2] 42 (0, 0)) (by (with_reducible repeat (first | refine blk_drewN ?_ _ | refine blk_drew ?_ | refine blk_alloc ?_ _)); exact BK113.out) hb); have n2_ := Aside0.mk (below_step (by repeat (first | (with_reducible first | exact HB.out | apply below_alloc | apply pw_below_drewN | apply below_drew1 | refine below_set ?_ GE112.out | refine below_set ?_ GE113.out) | exact HB.out)) hb); clear BK112; clear BK113; clear HB; have BK112 := n0_; have BK113 := n1_; have HB := n2_; clear n0_ n1_ n2_; (try clear hb); (try clear hb2); (try clear hk); (try clear hi); have hcz15_0 : w14.cell? ⟨gb112, 0, none⟩ = some (.string a0_0) := (blk_cell BK112.out 0).trans rfl; have hcz15_1 : w14.cell? ⟨gb112, 1, none⟩ = some (.string a0_1) := (blk_cell BK112.out 1).trans rfl; have hcz15_2 : w14.cell? ⟨gb112, 2, none⟩ = some (.string a0_2) := (blk_cell BK112.out 2).trans rfl; have hfz15_0 := blk_frozen BK112.out 0; have hfz15_1 := blk_frozen BK112.out 1; have hfz15_2 := blk_frozen BK112.out 2; have hcz16_0 : w14.cell? ⟨gb113, 0, none⟩ = some (.string a1_0) := (blk_cell BK113.out 0).trans rfl; have hcz16_1 : w14.cell? ⟨gb113, 1, none⟩ = some (.string a1_1) := (blk_cell BK113.out 1).trans rfl; have hcz16_2 : w14.cell? ⟨gb113, 2, none⟩ = some (.string a1_2) := (blk_cell BK113.out 2).trans rfl; have hfz16_0 := blk_frozen BK113.out 0; have hfz16_1 := blk_frozen BK113.out 1; have hfz16_2 := blk_frozen BK113.out 2) | ((with_reducible refine gate_callee (f := 81) rfl ?_); refine goesL_ (some 20) rfl rfl Tryz.func81 (by kernel_rfl) rfl #[.string a0_1, .string a1_1] rfl (by (try simp only [List.map_toArray, List.map_cons, List.map_nil]); first | done | rfl | (simp only [List.length_drop, List.length_take]; rfl)) ?_; (with_reducible refine (Giv.semantic_compareRedHatComponents.calls a0_1 a1_1 t115 _ A5.out).mono ?_); rintro e w17 ⟨rfl, hb⟩; refine ⟨_, rfl, ?_⟩; have n0_ := Aside0.mk (blk_below (g := gb112) (o := .cells #[.string a0_0, .string a0_1, .string a0_2] 42 (0, 0)) (by (with_reducible repeat (first | refine blk_drewN ?_ _ | refine blk_drew ?_ | refine blk_alloc ?_ _)); exact BK112.out) hb); have n1_ := Aside0.mk (blk_below (g := gb113) (o := .cells #[.string a1_0, .string a1_1, .string a1_2] 42 (0, 0)) (by (with_reducible repeat (first | refine blk_drewN ?_ _ | refine blk_drew ?_ | refine blk_alloc ?_ _)); exact BK113.out) hb); have n2_ := Aside0.mk (below_step (by repeat (first | (with_reducible first | exact HB.out | apply below_alloc | apply pw_below_drewN | apply below_drew1 | refine below_set ?_ GE112.out | refine below_set ?_ GE113.out) | exact HB.out)) hb); clear BK112; clear BK113; clear HB; have BK112 := n0_; have BK113 := n1_; have HB := n2_; clear n0_ n1_ n2_; (try clear hb); (try clear hb2); (try clear hk); (try clear hi); have hcz18_0 : w17.cell? ⟨gb112, 0, none⟩ = some (.string a0_0) := (blk_cell BK112.out 0).trans rfl; have hcz18_1 : w17.cell? ⟨gb112, 1, none⟩ = some (.string a0_1) := (blk_cell BK112.out 1).trans rfl; have hcz18_2 : w17.cell? ⟨gb112, 2, none⟩ = some (.string a0_2) := (blk_cell BK112.out 2).trans rfl; have hfz18_0 := blk_frozen BK112.out 0; have hfz18_1 := blk_frozen BK112.out 1; have hfz18_2 := blk_frozen BK112.out 2; have hcz19_0 : w17.cell? ⟨gb113, 0, none⟩ = some (.string a1_0) := (blk_cell BK113.out 0).trans rfl; have hcz19_1 : w17.cell? ⟨gb113, 1, none⟩ = some (.string a1_1) := (blk_cell BK113.out 1).trans rfl; have hcz19_2 : w17.cell? ⟨gb113, 2, none⟩ = some (.string a1_2) := (blk_cell BK113.out 2).trans rfl; have hfz19_0 := blk_frozen BK113.out 0; have hfz19_1 := blk_frozen BK113.out 1; have hfz19_2 := blk_frozen BK113.out 2) | ((with_reducible refine gate_callee (f := 81) rfl ?_); refine goesL_ (some 28) rfl rfl Tryz.func81 (by kernel_rfl) rfl #[.string a0_2, .string a1_2] rfl (by (try simp only [List.map_toArray, List.map_cons, List.map_nil]); first | done | rfl | (simp only [List.length_drop, List.length_take]; rfl)) ?_; (with_reducible refine (Giv.semantic_compareRedHatComponents.calls a0_2 a1_2 t116 _ A7.out).mono ?_); rintro e w20 ⟨rfl, hb⟩; refine ⟨_, rfl, ?_⟩; have n0_ := Aside0.mk (blk_below (g := gb112) (o := .cells #[.string a0_0, .string a0_1, .string a0_2] 42 (0, 0)) (by (with_reducible repeat (first | refine blk_drewN ?_ _ | refine blk_drew ?_ | refine blk_alloc ?_ _)); exact BK112.out) hb); have n1_ := Aside0.mk (blk_below (g := gb113) (o := .cells #[.string a1_0, .string a1_1, .string a1_2] 42 (0, 0)) (by (with_reducible repeat (first | refine blk_drewN ?_ _ | refine blk_drew ?_ | refine blk_alloc ?_ _)); exact BK113.out) hb); have n2_ := Aside0.mk (below_step (by repeat (first | (with_reducible first | exact HB.out | apply below_alloc | apply pw_below_drewN | apply below_drew1 | refine below_set ?_ GE112.out | refine below_set ?_ GE113.out) | exact HB.out)) hb); clear BK112; clear BK113; clear HB; have BK112 := n0_; have BK113 := n1_; have HB := n2_; clear n0_ n1_ n2_; (try clear hb); (try clear hb2); (try clear hk); (try clear hi)))
        go_ret
        exact ⟨by first | rfl | (simp [errW_none, errW_some] <;> rfl) | (simp [*, errW_none, errW_some] <;> rfl) | (simp [bne_nil_]; done), by repeat (first | (with_reducible first | exact HB.out | apply below_alloc | apply pw_below_drewN | apply below_drew1 | refine below_set ?_ GE112.out | refine below_set ?_ GE113.out) | exact HB.out)⟩
      · rw [if_neg c8] at H
        have c8b0 : (t116 == 0) = false := beq_eq_false_iff_ne.mpr c8
        have c8b1 : (t116 != 0) = true := bne_iff_ne.mpr c8
        obtain rfl := Option.some.inj H
        go_enter Tryz.func44, Tryz.ntmps44
        go_wp2_with (first | ((with_reducible refine gate_dst (N := 2) rfl ?_); refine box_event ?hg (N := 2) ?hd (cs := #[.string a0_0, .string a0_1, .string a0_2]) (t := 42) ?hr ?_; (case hd => rfl); (case hg => rfl); (case hr => first | (go_simp; done) | (go_simp; rfl)); intro gb112 hg w21 hbox hb; have n0_ := Aside0.mk (below_step (by repeat (first | (with_reducible first | exact HB.out | apply below_alloc | apply pw_below_drewN | apply below_drew1) | exact HB.out)) hb); have n1_ := Aside0.mk (hbox); have n2_ := Aside0.mk ((by rw [hg]; exact (below_size (by repeat (first | (with_reducible first | exact HB.out | apply below_alloc | apply pw_below_drewN | apply below_drew1) | exact HB.out))) : w.heap.size ≤ gb112)); have n3_ := Aside0.mk ((by rw [hg]; exact (below_size (by repeat (first | (with_reducible first | exact HB.out | apply below_alloc | apply pw_below_drewN | apply below_drew1) | exact HB.out))) : w.heap.size ≤ gb112)); clear HB; have HB := n0_; have BK112 := n1_; have GW112 := n2_; have GE112 := n3_; clear n0_ n1_ n2_ n3_; clear hb hbox hg) | ((with_reducible refine gate_dst (N := 3) rfl ?_); refine box_event ?hg (N := 3) ?hd (cs := #[.string a1_0, .string a1_1, .string a1_2]) (t := 42) ?hr ?_; (case hd => rfl); (case hg => rfl); (case hr => first | (go_simp; done) | (go_simp; rfl)); intro gb113 hg w22 hbox hb; have n0_ := Aside0.mk (blk_below (g := gb112) (o := .cells #[.string a0_0, .string a0_1, .string a0_2] 42 (0, 0)) (by (with_reducible repeat (first | refine blk_drewN ?_ _ | refine blk_drew ?_ | refine blk_alloc ?_ _)); exact BK112.out) hb); have n1_ := Aside0.mk (below_step (by repeat (first | (with_reducible first | exact HB.out | apply below_alloc | apply pw_below_drewN | apply below_drew1 | refine below_set ?_ GE112.out) | exact HB.out)) hb); have n2_ := Aside0.mk (hbox); have n3_ := Aside0.mk ((by rw [hg]; exact (below_size (by repeat (first | (with_reducible first | exact HB.out | apply below_alloc | apply pw_below_drewN | apply below_drew1 | refine below_set ?_ GE112.out) | exact HB.out))) : w.heap.size ≤ gb113)); have n4_ := Aside0.mk ((by rw [hg]; exact (below_size (by repeat (first | (with_reducible first | exact HB.out | apply below_alloc | apply pw_below_drewN | apply below_drew1 | refine below_set ?_ GE112.out) | exact HB.out))) : w.heap.size ≤ gb113)); have n5_ := Aside0.mk ((by rw [hg]; exact Nat.ne_of_lt (blk_lt (g := gb112) (o := .cells #[.string a0_0, .string a0_1, .string a0_2] 42 (0, 0)) (by (with_reducible repeat (first | refine blk_drewN ?_ _ | refine blk_drew ?_ | refine blk_alloc ?_ _)); exact BK112.out)) : gb112 ≠ gb113)); have n6_ := Aside0.mk ((by rw [hg]; exact Nat.ne_of_gt (blk_lt (g := gb112) (o := .cells #[.string a0_0, .string a0_1, .string a0_2] 42 (0, 0)) (by (with_reducible repeat (first | refine blk_drewN ?_ _ | refine blk_drew ?_ | refine blk_alloc ?_ _)); exact BK112.out)) : gb113 ≠ gb112)); clear BK112; clear HB; have BK112 := n0_; have HB := n1_; have BK113 := n2_; have GW113 := n3_; have GE113 := n4_; have NB112_113 := n5_; have NB113_112 := n6_; clear n0_ n1_ n2_ n3_ n4_ n5_ n6_; clear hb hbox hg; have hnb23 := NB112_113.out; have hnc23 := NB113_112.out; have hcz24_0 : w22.cell? ⟨gb112, 0, none⟩ = some (.string a0_0) := (blk_cell BK112.out 0).trans rfl; have hcz24_1 : w22.cell? ⟨gb112, 1, none⟩ = some (.string a0_1) := (blk_cell BK112.out 1).trans rfl; have hcz24_2 : w22.cell? ⟨gb112, 2, none⟩ = some (.string a0_2) := (blk_cell BK112.out 2).trans rfl; have hfz24_0 := blk_frozen BK112.out 0; have hfz24_1 := blk_frozen BK112.out 1; have hfz24_2 := blk_frozen BK112.out 2; have hcz25_0 : w22.cell? ⟨gb113, 0, none⟩ = some (.string a1_0) := (blk_cell BK113.out 0).trans rfl; have hcz25_1 : w22.cell? ⟨gb113, 1, none⟩ = some (.string a1_1) := (blk_cell BK113.out 1).trans rfl; have hcz25_2 : w22.cell? ⟨gb113, 2, none⟩ = some (.string a1_2) := (blk_cell BK113.out 2).trans rfl; have hfz25_0 := blk_frozen BK113.out 0; have hfz25_1 := blk_frozen BK113.out 1; have hfz25_2 := blk_frozen BK113.out 2) | ((with_reducible refine gate_callee (f := 81) rfl ?_); refine goesL_ (some 12) rfl rfl Tryz.func81 (by kernel_rfl) rfl #[.string a0_0, .string a1_0] rfl (by (try simp only [List.map_toArray, List.map_cons, List.map_nil]); first | done | rfl | (simp only [List.length_drop, List.length_take]; rfl)) ?_; (with_reducible refine (Giv.semantic_compareRedHatComponents.calls a0_0 a1_0 t114 _ A3.out).mono ?_); rintro e w26 ⟨rfl, hb⟩; refine ⟨_, rfl, ?_⟩; have n0_ := Aside0.mk (blk_below (g := gb112) (o := .cells #[.string a0_0, .string a0_1, .string a0_2] 42 (0, 0)) (by (with_reducible repeat (first | refine blk_drewN ?_ _ | refine blk_drew ?_ | refine blk_alloc ?_ _)); exact BK112.out) hb); have n1_ := Aside0.mk (blk_below (g := gb113) (o := .cells #[.string a1_0, .string a1_1, .string a1_2] 42 (0, 0)) (by (with_reducible repeat (first | refine blk_drewN ?_ _ | refine blk_drew ?_ | refine blk_alloc ?_ _)); exact BK113.out) hb); have n2_ := Aside0.mk (below_step (by repeat (first | (with_reducible first | exact HB.out | apply below_alloc | apply pw_below_drewN | apply below_drew1 | refine below_set ?_ GE112.out | refine below_set ?_ GE113.out) | exact HB.out)) hb); clear BK112; clear BK113; clear HB; have BK112 := n0_; have BK113 := n1_; have HB := n2_; clear n0_ n1_ n2_; (try clear hb); (try clear hb2); (try clear hk); (try clear hi); have hcz27_0 : w26.cell? ⟨gb112, 0, none⟩ = some (.string a0_0) := (blk_cell BK112.out 0).trans rfl; have hcz27_1 : w26.cell? ⟨gb112, 1, none⟩ = some (.string a0_1) := (blk_cell BK112.out 1).trans rfl; have hcz27_2 : w26.cell? ⟨gb112, 2, none⟩ = some (.string a0_2) := (blk_cell BK112.out 2).trans rfl; have hfz27_0 := blk_frozen BK112.out 0; have hfz27_1 := blk_frozen BK112.out 1; have hfz27_2 := blk_frozen BK112.out 2; have hcz28_0 : w26.cell? ⟨gb113, 0, none⟩ = some (.string a1_0) := (blk_cell BK113.out 0).trans rfl; have hcz28_1 : w26.cell? ⟨gb113, 1, none⟩ = some (.string a1_1) := (blk_cell BK113.out 1).trans rfl; have hcz28_2 : w26.cell? ⟨gb113, 2, none⟩ = some (.string a1_2) := (blk_cell BK113.out 2).trans rfl; have hfz28_0 := blk_frozen BK113.out 0; have hfz28_1 := blk_frozen BK113.out 1; have hfz28_2 := blk_frozen BK113.out 2) | ((with_reducible refine gate_callee (f := 81) rfl ?_); refine goesL_ (some 20) rfl rfl Tryz.func81 (by kernel_rfl) rfl #[.string a0_1, .string a1_1] rfl (by (try simp only [List.map_toArray, List.map_cons, List.map_nil]); first | done | rfl | (simp only [List.length_drop, List.length_take]; rfl)) ?_; (with_reducible refine (Giv.semantic_compareRedHatComponents.calls a0_1 a1_1 t115 _ A5.out).mono ?_); rintro e w29 ⟨rfl, hb⟩; refine ⟨_, rfl, ?_⟩; have n0_ := Aside0.mk (blk_below (g := gb112) (o := .cells #[.string a0_0, .string a0_1, .string a0_2] 42 (0, 0)) (by (with_reducible repeat (first | refine blk_drewN ?_ _ | refine blk_drew ?_ | refine blk_alloc ?_ _)); exact BK112.out) hb); have n1_ := Aside0.mk (blk_below (g := gb113) (o := .cells #[.string a1_0, .string a1_1, .string a1_2] 42 (0, 0)) (by (with_reducible repeat (first | refine blk_drewN ?_ _ | refine blk_drew ?_ | refine blk_alloc ?_ _)); exact BK113.out) hb); have n2_ := Aside0.mk (below_step (by repeat (first | (with_reducible first | exact HB.out | apply below_alloc | apply pw_below_drewN | apply below_drew1 | refine below_set ?_ GE112.out | refine below_set ?_ GE113.out) | exact HB.out)) hb); clear BK112; clear BK113; clear HB; have BK112 := n0_; have BK113 := n1_; have HB := n2_; clear n0_ n1_ n2_; (try clear hb); (try clear hb2); (try clear hk); (try clear hi); have hcz30_0 : w29.cell? ⟨gb112, 0, none⟩ = some (.string a0_0) := (blk_cell BK112.out 0).trans rfl; have hcz30_1 : w29.cell? ⟨gb112, 1, none⟩ = some (.string a0_1) := (blk_cell BK112.out 1).trans rfl; have hcz30_2 : w29.cell? ⟨gb112, 2, none⟩ = some (.string a0_2) := (blk_cell BK112.out 2).trans rfl; have hfz30_0 := blk_frozen BK112.out 0; have hfz30_1 := blk_frozen BK112.out 1; have hfz30_2 := blk_frozen BK112.out 2; have hcz31_0 : w29.cell? ⟨gb113, 0, none⟩ = some (.string a1_0) := (blk_cell BK113.out 0).trans rfl; have hcz31_1 : w29.cell? ⟨gb113, 1, none⟩ = some (.string a1_1) := (blk_cell BK113.out 1).trans rfl; have hcz31_2 : w29.cell? ⟨gb113, 2, none⟩ = some (.string a1_2) := (blk_cell BK113.out 2).trans rfl; have hfz31_0 := blk_frozen BK113.out 0; have hfz31_1 := blk_frozen BK113.out 1; have hfz31_2 := blk_frozen BK113.out 2) | ((with_reducible refine gate_callee (f := 81) rfl ?_); refine goesL_ (some 28) rfl rfl Tryz.func81 (by kernel_rfl) rfl #[.string a0_2, .string a1_2] rfl (by (try simp only [List.map_toArray, List.map_cons, List.map_nil]); first | done | rfl | (simp only [List.length_drop, List.length_take]; rfl)) ?_; (with_reducible refine (Giv.semantic_compareRedHatComponents.calls a0_2 a1_2 t116 _ A7.out).mono ?_); rintro e w32 ⟨rfl, hb⟩; refine ⟨_, rfl, ?_⟩; have n0_ := Aside0.mk (blk_below (g := gb112) (o := .cells #[.string a0_0, .string a0_1, .string a0_2] 42 (0, 0)) (by (with_reducible repeat (first | refine blk_drewN ?_ _ | refine blk_drew ?_ | refine blk_alloc ?_ _)); exact BK112.out) hb); have n1_ := Aside0.mk (blk_below (g := gb113) (o := .cells #[.string a1_0, .string a1_1, .string a1_2] 42 (0, 0)) (by (with_reducible repeat (first | refine blk_drewN ?_ _ | refine blk_drew ?_ | refine blk_alloc ?_ _)); exact BK113.out) hb); have n2_ := Aside0.mk (below_step (by repeat (first | (with_reducible first | exact HB.out | apply below_alloc | apply pw_below_drewN | apply below_drew1 | refine below_set ?_ GE112.out | refine below_set ?_ GE113.out) | exact HB.out)) hb); clear BK112; clear BK113; clear HB; have BK112 := n0_; have BK113 := n1_; have HB := n2_; clear n0_ n1_ n2_; (try clear hb); (try clear hb2); (try clear hk); (try clear hi)))
        go_ret
        exact ⟨by first | rfl | (simp [errW_none, errW_some] <;> rfl) | (simp [*, errW_none, errW_some] <;> rfl) | (simp [bne_nil_]; done), by repeat (first | (with_reducible first | exact HB.out | apply below_alloc | apply pw_below_drewN | apply below_drew1 | refine below_set ?_ GE112.out | refine below_set ?_ GE113.out) | exact HB.out)⟩
    · rw [if_neg c6] at H
      have c6b0 : (t115 == 0) = false := beq_eq_false_iff_ne.mpr c6
      have c6b1 : (t115 != 0) = true := bne_iff_ne.mpr c6
      obtain rfl := Option.some.inj H
      go_enter Tryz.func44, Tryz.ntmps44
      go_wp2_with (first | ((with_reducible refine gate_dst (N := 2) rfl ?_); refine box_event ?hg (N := 2) ?hd (cs := #[.string a0_0, .string a0_1, .string a0_2]) (t := 42) ?hr ?_; (case hd => rfl); (case hg => rfl); (case hr => first | (go_simp; done) | (go_simp; rfl)); intro gb112 hg w33 hbox hb; have n0_ := Aside0.mk (below_step (by repeat (first | (with_reducible first | exact HB.out | apply below_alloc | apply pw_below_drewN | apply below_drew1) | exact HB.out)) hb); have n1_ := Aside0.mk (hbox); have n2_ := Aside0.mk ((by rw [hg]; exact (below_size (by repeat (first | (with_reducible first | exact HB.out | apply below_alloc | apply pw_below_drewN | apply below_drew1) | exact HB.out))) : w.heap.size ≤ gb112)); have n3_ := Aside0.mk ((by rw [hg]; exact (below_size (by repeat (first | (with_reducible first | exact HB.out | apply below_alloc | apply pw_below_drewN | apply below_drew1) | exact HB.out))) : w.heap.size ≤ gb112)); clear HB; have HB := n0_; have BK112 := n1_; have GW112 := n2_; have GE112 := n3_; clear n0_ n1_ n2_ n3_; clear hb hbox hg) | ((with_reducible refine gate_dst (N := 3) rfl ?_); refine box_event ?hg (N := 3) ?hd (cs := #[.string a1_0, .string a1_1, .string a1_2]) (t := 42) ?hr ?_; (case hd => rfl); (case hg => rfl); (case hr => first | (go_simp; done) | (go_simp; rfl)); intro gb113 hg w34 hbox hb; have n0_ := Aside0.mk (blk_below (g := gb112) (o := .cells #[.string a0_0, .string a0_1, .string a0_2] 42 (0, 0)) (by (with_reducible repeat (first | refine blk_drewN ?_ _ | refine blk_drew ?_ | refine blk_alloc ?_ _)); exact BK112.out) hb); have n1_ := Aside0.mk (below_step (by repeat (first | (with_reducible first | exact HB.out | apply below_alloc | apply pw_below_drewN | apply below_drew1 | refine below_set ?_ GE112.out) | exact HB.out)) hb); have n2_ := Aside0.mk (hbox); have n3_ := Aside0.mk ((by rw [hg]; exact (below_size (by repeat (first | (with_reducible first | exact HB.out | apply below_alloc | apply pw_below_drewN | apply below_drew1 | refine below_set ?_ GE112.out) | exact HB.out))) : w.heap.size ≤ gb113)); have n4_ := Aside0.mk ((by rw [hg]; exact (below_size (by repeat (first | (with_reducible first | exact HB.out | apply below_alloc | apply pw_below_drewN | apply below_drew1 | refine below_set ?_ GE112.out) | exact HB.out))) : w.heap.size ≤ gb113)); have n5_ := Aside0.mk ((by rw [hg]; exact Nat.ne_of_lt (blk_lt (g := gb112) (o := .cells #[.string a0_0, .string a0_1, .string a0_2] 42 (0, 0)) (by (with_reducible repeat (first | refine blk_drewN ?_ _ | refine blk_drew ?_ | refine blk_alloc ?_ _)); exact BK112.out)) : gb112 ≠ gb113)); have n6_ := Aside0.mk ((by rw [hg]; exact Nat.ne_of_gt (blk_lt (g := gb112) (o := .cells #[.string a0_0, .string a0_1, .string a0_2] 42 (0, 0)) (by (with_reducible repeat (first | refine blk_drewN ?_ _ | refine blk_drew ?_ | refine blk_alloc ?_ _)); exact BK112.out)) : gb113 ≠ gb112)); clear BK112; clear HB; have BK112 := n0_; have HB := n1_; have BK113 := n2_; have GW113 := n3_; have GE113 := n4_; have NB112_113 := n5_; have NB113_112 := n6_; clear n0_ n1_ n2_ n3_ n4_ n5_ n6_; clear hb hbox hg; have hnb35 := NB112_113.out; have hnc35 := NB113_112.out; have hcz36_0 : w34.cell? ⟨gb112, 0, none⟩ = some (.string a0_0) := (blk_cell BK112.out 0).trans rfl; have hcz36_1 : w34.cell? ⟨gb112, 1, none⟩ = some (.string a0_1) := (blk_cell BK112.out 1).trans rfl; have hcz36_2 : w34.cell? ⟨gb112, 2, none⟩ = some (.string a0_2) := (blk_cell BK112.out 2).trans rfl; have hfz36_0 := blk_frozen BK112.out 0; have hfz36_1 := blk_frozen BK112.out 1; have hfz36_2 := blk_frozen BK112.out 2; have hcz37_0 : w34.cell? ⟨gb113, 0, none⟩ = some (.string a1_0) := (blk_cell BK113.out 0).trans rfl; have hcz37_1 : w34.cell? ⟨gb113, 1, none⟩ = some (.string a1_1) := (blk_cell BK113.out 1).trans rfl; have hcz37_2 : w34.cell? ⟨gb113, 2, none⟩ = some (.string a1_2) := (blk_cell BK113.out 2).trans rfl; have hfz37_0 := blk_frozen BK113.out 0; have hfz37_1 := blk_frozen BK113.out 1; have hfz37_2 := blk_frozen BK113.out 2) | ((with_reducible refine gate_callee (f := 81) rfl ?_); refine goesL_ (some 12) rfl rfl Tryz.func81 (by kernel_rfl) rfl #[.string a0_0, .string a1_0] rfl (by (try simp only [List.map_toArray, List.map_cons, List.map_nil]); first | done | rfl | (simp only [List.length_drop, List.length_take]; rfl)) ?_; (with_reducible refine (Giv.semantic_compareRedHatComponents.calls a0_0 a1_0 t114 _ A3.out).mono ?_); rintro e w38 ⟨rfl, hb⟩; refine ⟨_, rfl, ?_⟩; have n0_ := Aside0.mk (blk_below (g := gb112) (o := .cells #[.string a0_0, .string a0_1, .string a0_2] 42 (0, 0)) (by (with_reducible repeat (first | refine blk_drewN ?_ _ | refine blk_drew ?_ | refine blk_alloc ?_ _)); exact BK112.out) hb); have n1_ := Aside0.mk (blk_below (g := gb113) (o := .cells #[.string a1_0, .string a1_1, .string a1_2] 42 (0, 0)) (by (with_reducible repeat (first | refine blk_drewN ?_ _ | refine blk_drew ?_ | refine blk_alloc ?_ _)); exact BK113.out) hb); have n2_ := Aside0.mk (below_step (by repeat (first | (with_reducible first | exact HB.out | apply below_alloc | apply pw_below_drewN | apply below_drew1 | refine below_set ?_ GE112.out | refine below_set ?_ GE113.out) | exact HB.out)) hb); clear BK112; clear BK113; clear HB; have BK112 := n0_; have BK113 := n1_; have HB := n2_; clear n0_ n1_ n2_; (try clear hb); (try clear hb2); (try clear hk); (try clear hi); have hcz39_0 : w38.cell? ⟨gb112, 0, none⟩ = some (.string a0_0) := (blk_cell BK112.out 0).trans rfl; have hcz39_1 : w38.cell? ⟨gb112, 1, none⟩ = some (.string a0_1) := (blk_cell BK112.out 1).trans rfl; have hcz39_2 : w38.cell? ⟨gb112, 2, none⟩ = some (.string a0_2) := (blk_cell BK112.out 2).trans rfl; have hfz39_0 := blk_frozen BK112.out 0; have hfz39_1 := blk_frozen BK112.out 1; have hfz39_2 := blk_frozen BK112.out 2; have hcz40_0 : w38.cell? ⟨gb113, 0, none⟩ = some (.string a1_0) := (blk_cell BK113.out 0).trans rfl; have hcz40_1 : w38.cell? ⟨gb113, 1, none⟩ = some (.string a1_1) := (blk_cell BK113.out 1).trans rfl; have hcz40_2 : w38.cell? ⟨gb113, 2, none⟩ = some (.string a1_2) := (blk_cell BK113.out 2).trans rfl; have hfz40_0 := blk_frozen BK113.out 0; have hfz40_1 := blk_frozen BK113.out 1; have hfz40_2 := blk_frozen BK113.out 2) | ((with_reducible refine gate_callee (f := 81) rfl ?_); refine goesL_ (some 20) rfl rfl Tryz.func81 (by kernel_rfl) rfl #[.string a0_1, .string a1_1] rfl (by (try simp only [List.map_toArray, List.map_cons, List.map_nil]); first | done | rfl | (simp only [List.length_drop, List.length_take]; rfl)) ?_; (with_reducible refine (Giv.semantic_compareRedHatComponents.calls a0_1 a1_1 t115 _ A5.out).mono ?_); rintro e w41 ⟨rfl, hb⟩; refine ⟨_, rfl, ?_⟩; have n0_ := Aside0.mk (blk_below (g := gb112) (o := .cells #[.string a0_0, .string a0_1, .string a0_2] 42 (0, 0)) (by (with_reducible repeat (first | refine blk_drewN ?_ _ | refine blk_drew ?_ | refine blk_alloc ?_ _)); exact BK112.out) hb); have n1_ := Aside0.mk (blk_below (g := gb113) (o := .cells #[.string a1_0, .string a1_1, .string a1_2] 42 (0, 0)) (by (with_reducible repeat (first | refine blk_drewN ?_ _ | refine blk_drew ?_ | refine blk_alloc ?_ _)); exact BK113.out) hb); have n2_ := Aside0.mk (below_step (by repeat (first | (with_reducible first | exact HB.out | apply below_alloc | apply pw_below_drewN | apply below_drew1 | refine below_set ?_ GE112.out | refine below_set ?_ GE113.out) | exact HB.out)) hb); clear BK112; clear BK113; clear HB; have BK112 := n0_; have BK113 := n1_; have HB := n2_; clear n0_ n1_ n2_; (try clear hb); (try clear hb2); (try clear hk); (try clear hi)))
      go_ret
      exact ⟨by first | rfl | (simp [errW_none, errW_some] <;> rfl) | (simp [*, errW_none, errW_some] <;> rfl) | (simp [bne_nil_]; done), by repeat (first | (with_reducible first | exact HB.out | apply below_alloc | apply pw_below_drewN | apply below_drew1 | refine below_set ?_ GE112.out | refine below_set ?_ GE113.out) | exact HB.out)⟩
  · rw [if_neg c4] at H
    have c4b0 : (t114 == 0) = false := beq_eq_false_iff_ne.mpr c4
    have c4b1 : (t114 != 0) = true := bne_iff_ne.mpr c4
    obtain rfl := Option.some.inj H
    go_enter Tryz.func44, Tryz.ntmps44
    go_wp2_with (first | ((with_reducible refine gate_dst (N := 2) rfl ?_); refine box_event ?hg (N := 2) ?hd (cs := #[.string a0_0, .string a0_1, .string a0_2]) (t := 42) ?hr ?_; (case hd => rfl); (case hg => rfl); (case hr => first | (go_simp; done) | (go_simp; rfl)); intro gb112 hg w42 hbox hb; have n0_ := Aside0.mk (below_step (by repeat (first | (with_reducible first | exact HB.out | apply below_alloc | apply pw_below_drewN | apply below_drew1) | exact HB.out)) hb); have n1_ := Aside0.mk (hbox); have n2_ := Aside0.mk ((by rw [hg]; exact (below_size (by repeat (first | (with_reducible first | exact HB.out | apply below_alloc | apply pw_below_drewN | apply below_drew1) | exact HB.out))) : w.heap.size ≤ gb112)); have n3_ := Aside0.mk ((by rw [hg]; exact (below_size (by repeat (first | (with_reducible first | exact HB.out | apply below_alloc | apply pw_below_drewN | apply below_drew1) | exact HB.out))) : w.heap.size ≤ gb112)); clear HB; have HB := n0_; have BK112 := n1_; have GW112 := n2_; have GE112 := n3_; clear n0_ n1_ n2_ n3_; clear hb hbox hg) | ((with_reducible refine gate_dst (N := 3) rfl ?_); refine box_event ?hg (N := 3) ?hd (cs := #[.string a1_0, .string a1_1, .string a1_2]) (t := 42) ?hr ?_; (case hd => rfl); (case hg => rfl); (case hr => first | (go_simp; done) | (go_simp; rfl)); intro gb113 hg w43 hbox hb; have n0_ := Aside0.mk (blk_below (g := gb112) (o := .cells #[.string a0_0, .string a0_1, .string a0_2] 42 (0, 0)) (by (with_reducible repeat (first | refine blk_drewN ?_ _ | refine blk_drew ?_ | refine blk_alloc ?_ _)); exact BK112.out) hb); have n1_ := Aside0.mk (below_step (by repeat (first | (with_reducible first | exact HB.out | apply below_alloc | apply pw_below_drewN | apply below_drew1 | refine below_set ?_ GE112.out) | exact HB.out)) hb); have n2_ := Aside0.mk (hbox); have n3_ := Aside0.mk ((by rw [hg]; exact (below_size (by repeat (first | (with_reducible first | exact HB.out | apply below_alloc | apply pw_below_drewN | apply below_drew1 | refine below_set ?_ GE112.out) | exact HB.out))) : w.heap.size ≤ gb113)); have n4_ := Aside0.mk ((by rw [hg]; exact (below_size (by repeat (first | (with_reducible first | exact HB.out | apply below_alloc | apply pw_below_drewN | apply below_drew1 | refine below_set ?_ GE112.out) | exact HB.out))) : w.heap.size ≤ gb113)); have n5_ := Aside0.mk ((by rw [hg]; exact Nat.ne_of_lt (blk_lt (g := gb112) (o := .cells #[.string a0_0, .string a0_1, .string a0_2] 42 (0, 0)) (by (with_reducible repeat (first | refine blk_drewN ?_ _ | refine blk_drew ?_ | refine blk_alloc ?_ _)); exact BK112.out)) : gb112 ≠ gb113)); have n6_ := Aside0.mk ((by rw [hg]; exact Nat.ne_of_gt (blk_lt (g := gb112) (o := .cells #[.string a0_0, .string a0_1, .string a0_2] 42 (0, 0)) (by (with_reducible repeat (first | refine blk_drewN ?_ _ | refine blk_drew ?_ | refine blk_alloc ?_ _)); exact BK112.out)) : gb113 ≠ gb112)); clear BK112; clear HB; have BK112 := n0_; have HB := n1_; have BK113 := n2_; have GW113 := n3_; have GE113 := n4_; have NB112_113 := n5_; have NB113_112 := n6_; clear n0_ n1_ n2_ n3_ n4_ n5_ n6_; clear hb hbox hg; have hnb44 := NB112_113.out; have hnc44 := NB113_112.out; have hcz45_0 : w43.cell? ⟨gb112, 0, none⟩ = some (.string a0_0) := (blk_cell BK112.out 0).trans rfl; have hcz45_1 : w43.cell? ⟨gb112, 1, none⟩ = some (.string a0_1) := (blk_cell BK112.out 1).trans rfl; have hcz45_2 : w43.cell? ⟨gb112, 2, none⟩ = some (.string a0_2) := (blk_cell BK112.out 2).trans rfl; have hfz45_0 := blk_frozen BK112.out 0; have hfz45_1 := blk_frozen BK112.out 1; have hfz45_2 := blk_frozen BK112.out 2; have hcz46_0 : w43.cell? ⟨gb113, 0, none⟩ = some (.string a1_0) := (blk_cell BK113.out 0).trans rfl; have hcz46_1 : w43.cell? ⟨gb113, 1, none⟩ = some (.string a1_1) := (blk_cell BK113.out 1).trans rfl; have hcz46_2 : w43.cell? ⟨gb113, 2, none⟩ = some (.string a1_2) := (blk_cell BK113.out 2).trans rfl; have hfz46_0 := blk_frozen BK113.out 0; have hfz46_1 := blk_frozen BK113.out 1; have hfz46_2 := blk_frozen BK113.out 2) | ((with_reducible refine gate_callee (f := 81) rfl ?_); refine goesL_ (some 12) rfl rfl Tryz.func81 (by kernel_rfl) rfl #[.string a0_0, .string a1_0] rfl (by (try simp only [List.map_toArray, List.map_cons, List.map_nil]); first | done | rfl | (simp only [List.length_drop, List.length_take]; rfl)) ?_; (with_reducible refine (Giv.semantic_compareRedHatComponents.calls a0_0 a1_0 t114 _ A3.out).mono ?_); rintro e w47 ⟨rfl, hb⟩; refine ⟨_, rfl, ?_⟩; have n0_ := Aside0.mk (blk_below (g := gb112) (o := .cells #[.string a0_0, .string a0_1, .string a0_2] 42 (0, 0)) (by (with_reducible repeat (first | refine blk_drewN ?_ _ | refine blk_drew ?_ | refine blk_alloc ?_ _)); exact BK112.out) hb); have n1_ := Aside0.mk (blk_below (g := gb113) (o := .cells #[.string a1_0, .string a1_1, .string a1_2] 42 (0, 0)) (by (with_reducible repeat (first | refine blk_drewN ?_ _ | refine blk_drew ?_ | refine blk_alloc ?_ _)); exact BK113.out) hb); have n2_ := Aside0.mk (below_step (by repeat (first | (with_reducible first | exact HB.out | apply below_alloc | apply pw_below_drewN | apply below_drew1 | refine below_set ?_ GE112.out | refine below_set ?_ GE113.out) | exact HB.out)) hb); clear BK112; clear BK113; clear HB; have BK112 := n0_; have BK113 := n1_; have HB := n2_; clear n0_ n1_ n2_; (try clear hb); (try clear hb2); (try clear hk); (try clear hi)))
    go_ret
    exact ⟨by first | rfl | (simp [errW_none, errW_some] <;> rfl) | (simp [*, errW_none, errW_some] <;> rfl) | (simp [bne_nil_]; done), by repeat (first | (with_reducible first | exact HB.out | apply below_alloc | apply pw_below_drewN | apply below_drew1 | refine below_set ?_ GE112.out | refine below_set ?_ GE113.out) | exact HB.out)⟩

/-! ### semantic_zzSplit: function 45 -/
def semantic_zzSplit.l1 : Nat → ByteArray → ByteArray → List ByteArray → Option (List ByteArray)
  | 0, _, _, _ => none
  | k + 1, x0, x1, x5 => (semantic_zzIndex.f k x0 x1).bind fun t117 => (if t117 < 0 then (if x5.length < 8796093022208 then (some (x5 ++ [x0])) else (none)) else (if 0 ≤ t117 then (if t117 ≤ (x0.size : Int) then (if x5.length < 8796093022208 then (if 0 ≤ (wrap64 (t117 + (x1.size : Int))) then (if (wrap64 (t117 + (x1.size : Int))) ≤ (x0.size : Int) then (semantic_zzSplit.l1 k (x0.extract ((wrap64 (t117 + (x1.size : Int))) : Int).toNat x0.size) x1 (x5 ++ [x0.extract 0 (t117 : Int).toNat])) else (none)) else (none)) else (none)) else (none)) else (none)))
def semantic_zzSplit.f (k : Nat) (a0 : ByteArray) (a1 : ByteArray) : Option (List ByteArray) := if (a1.size : Int) = 0 then (none) else (semantic_zzSplit.l1 k a0 a1 ([] : List ByteArray))
theorem semantic_zzSplit.mono_l : ∀ k, (∀ y0 y1 y2, LeO (semantic_zzSplit.l1 k y0 y1 y2) (semantic_zzSplit.l1 (k + 1) y0 y1 y2))
  | 0 => fun _ _ _ r h => by simp [semantic_zzSplit.l1] at h
  | k + 1 => by
    have ih0 := semantic_zzSplit.mono_l k
    · intro y0 y1 y2
      unfold semantic_zzSplit.l1
      repeat' first
      | (with_reducible exact ih0 _ _ _)
      | (with_reducible exact semantic_zzIndex.mono _ _ _)
      | (with_reducible exact LeO.refl _)
      | (with_reducible exact LeO.none _)
      | (with_reducible refine LeO.ite ?_ ?_)
      | (with_reducible refine LeO.bind ?_ (fun _ => ?_))
      | exact ih0 _ _ _
      | exact semantic_zzIndex.mono _ _ _
      | exact LeO.none _
      | refine LeO.ite ?_ ?_
      | refine LeO.bind ?_ (fun _ => ?_)
theorem semantic_zzSplit.mono : ∀ a0 a1 k, LeO (semantic_zzSplit.f k a0 a1) (semantic_zzSplit.f (k + 1) a0 a1) := by
  intro a0 a1 k
  have ih0 := semantic_zzSplit.mono_l k
  unfold semantic_zzSplit.f
  repeat' first
      | (with_reducible exact ih0 _ _ _)
      | (with_reducible exact semantic_zzIndex.mono _ _ _)
      | (with_reducible exact LeO.refl _)
      | (with_reducible exact LeO.none _)
      | (with_reducible refine LeO.ite ?_ ?_)
      | (with_reducible refine LeO.bind ?_ (fun _ => ?_))
      | exact ih0 _ _ _
      | exact semantic_zzIndex.mono _ _ _
      | exact LeO.none _
      | refine LeO.ite ?_ ?_
      | refine LeO.bind ?_ (fun _ => ?_)
set_option maxHeartbeats 8000000 in
set_option maxRecDepth 100000 in
theorem semantic_zzSplit.calls (k : Nat) (a0 : ByteArray) (a1 : ByteArray) (r : List ByteArray) (w : World) (h : semantic_zzSplit.f k a0 a1 = some r) :
    Calls Tryz.prog 45 #[.string a0, .string a1] w fun e w' => ∃ v0_ : Value, e = .returned (v0_) ∧ Kd.R Kd.string 9 w' w.heap.size (fun _ => True) v0_ r ∧ Below w.heap.size w w' := by
  have HB := Aside0.mk (Below.refl w.heap.size w)
  have H : (if (a1.size : Int) = 0 then (none) else (semantic_zzSplit.l1 k a0 a1 ([] : List ByteArray))) = some r := h
  clear h
  by_cases c3 : (a1.size : Int) = 0
  · rw [if_pos c3] at H
    exact absurd H (by simp)
  · rw [if_neg c3] at H
    have c3b0 : ((a1.size : Int) == 0) = false := beq_eq_false_iff_ne.mpr c3
    have c3b1 : ((a1.size : Int) != 0) = true := bne_iff_ne.mpr c3
    have H' := Aside0.mk H
    clear H
    go_enter Tryz.func45, Tryz.ntmps45
    go_wp2
    go_loopg [0, 5] k (fun kq v0 v5 w' => ∃ (x0_1 : ByteArray) (x5_1 : List ByteArray), v0 = .string x0_1 ∧ Aside0 (semantic_zzSplit.l1 kq x0_1 a1 x5_1 = some r) ∧ Aside0 (kq ≤ k) ∧ Aside0 (Kd.R Kd.string 9 w' w.heap.size (fun _ => True) v5 x5_1) ∧ Aside0 (Below w.heap.size w w'))
    case atStart => exact ⟨(a0), (([] : List ByteArray)), (by first | rfl | (simp; done) | (simp [*]; done) | (simp [bne_nil_]; done)), H', ⟨Nat.le_refl _⟩, ⟨by first | exact Kd.R_nil _ _ _ _ _ | exact Kd.N_nil _ _ _ _ _ | exact Kd.V_nil _ _ _ _ _ | exact Kd.Q_nil _ _ _ _ _ | exact Kd.S_nil _ _ _ _ _⟩, ⟨by repeat (first | (with_reducible first | exact HB.out | apply below_alloc | apply pw_below_drewN | apply below_drew1) | exact HB.out)⟩⟩
    case round =>
      clear H'
      try clear p2
      try clear c3
      try clear c3b0
      try clear c3b1
      obtain ⟨x0_1, x5_1, rfl, HA, HK1, HO_5, HB⟩ := hrel
      cases gk with
      | zero => exact absurd HA.out (by simp [semantic_zzSplit.l1])
      | succ k1 =>
        have H := HA.out
        clear HA
        simp only [semantic_zzSplit.l1] at H
        replace H := Option.bind_eq_some_iff.mp H
        obtain ⟨t117, A40, H⟩ := H
        replace H : (if t117 < 0 then (if x5_1.length < 8796093022208 then (some (x5_1 ++ [x0_1])) else (none)) else (if 0 ≤ t117 then (if t117 ≤ (x0_1.size : Int) then (if x5_1.length < 8796093022208 then (if 0 ≤ (wrap64 (t117 + (a1.size : Int))) then (if (wrap64 (t117 + (a1.size : Int))) ≤ (x0_1.size : Int) then (semantic_zzSplit.l1 k1 (x0_1.extract ((wrap64 (t117 + (a1.size : Int))) : Int).toNat x0_1.size) a1 (x5_1 ++ [x0_1.extract 0 (t117 : Int).toNat])) else (none)) else (none)) else (none)) else (none)) else (none))) = some r := H
        have A4 := Aside0.mk A40
        clear A40
        by_cases c5 : t117 < 0
        · rw [if_pos c5] at H
          have c5b0 : decide (t117 < 0) = true := decide_eq_true c5
          clear c5
          by_cases c6 : x5_1.length < 8796093022208
          · rw [if_pos c6] at H
            have LMc6 := Aside0.mk c6
            clear c6
            obtain ⟨y118, hy118⟩ : ∃ y_ : List ByteArray, y_ = (x5_1 ++ [x0_1]) := ⟨_, rfl⟩
            replace H : (some y118) = some r := by first | (rw [hy118]; with_reducible exact H) | (have H2_ := (Option.bind_some _ _).symm.trans H; rw [hy118]; with_reducible exact H2_) | (have H2_ := (Option.bind_some _ _).symm.trans H; with_reducible exact H2_) | with_reducible exact H | (rw [hy118]; exact H) | exact H
            have Ny118 := Aside0.mk hy118
            clear hy118
            obtain rfl := Option.some.inj H
            go_wp2_with (first | ((with_reducible refine gate_callee (f := 76) rfl ?_); refine goesL_ (some 39) rfl rfl Tryz.func76 (by kernel_rfl) rfl #[.string x0_1, .string a1] rfl (by (try simp only [List.map_toArray, List.map_cons, List.map_nil]); first | done | rfl | (simp only [List.length_drop, List.length_take]; rfl)) ?_; (with_reducible refine (semantic_zzIndex.calls k1 x0_1 a1 t117 _ A4.out).mono ?_); rintro e w' ⟨rfl, ⟨nd, rfl⟩⟩; refine ⟨_, rfl, ?_⟩) | ((with_reducible refine gate_builtin (b := .append) (xs := #[.tmp 42, .tmp 44]) rfl ?_); at_builtin; refine Kd.R_append Kd.string (w0 := w) w.heap.size rfl (.tmp 42) (.tmp 44) 28 9 (.string ⟨#[]⟩) 16 rfl Tryz.underlying28 info9 rfl (by decide) (by omega) u5 x5_1 x0_1 [.string x0_1] (fun _ => True) (fun _ => False) rfl rfl ?aP (fun _ hk => hk.elim) ?aF ?aO ?aB ?aS ?aL ?_; (case aP => exact rfl); (case aB => exact (by repeat (first | (with_reducible first | exact HB.out | apply below_alloc | apply pw_below_drewN | apply below_drew1) | exact HB.out))); (case aF => exact (fun _ _ => trivial)); (case aO => exact (by (with_reducible repeat (first | apply Kd.R_alloc | apply Kd.R_drewN | apply Kd.R_drew)); exact HO_5.out)); (case aS => exact (below_size (by repeat (first | (with_reducible first | exact HB.out | apply below_alloc | apply pw_below_drewN | apply below_drew1) | exact HB.out)))); (case aL => have := LMc6.out; omega); intro v119 w7 ho hb hg hat; rw [← Ny118.out] at ho; have n0_ := Aside0.mk (hb); have n1_ := Aside0.mk (ho); clear HB; clear HO_5; have HB := n0_; have HO120 := n1_; clear n0_ n1_; clear ho hb hg hat))
            go_ret
            exact ⟨_, by first | rfl | (simp [errW_none, errW_some] <;> rfl) | (simp [*, errW_none, errW_some] <;> rfl) | (simp [bne_nil_]; done), by (with_reducible repeat (first | apply Kd.R_alloc | apply Kd.R_drewN | apply Kd.R_drew)); exact HO120.out, by repeat (first | (with_reducible first | exact HB.out | apply below_alloc | apply pw_below_drewN | apply below_drew1) | exact HB.out)⟩
          · rw [if_neg c6] at H
            exact absurd H (by simp)
        · rw [if_neg c5] at H
          have c5b0 : decide (t117 < 0) = false := decide_eq_false c5
          clear c5
          by_cases c8 : 0 ≤ t117
          · rw [if_pos c8] at H
            have c8b0 := eq_true c8
            have c8b1 : decide (0 ≤ t117) = true := decide_eq_true c8
            clear c8
            by_cases c9 : t117 ≤ (x0_1.size : Int)
            · rw [if_pos c9] at H
              have c9b0 := eq_true c9
              have c9b1 : decide (t117 ≤ (x0_1.size : Int)) = true := decide_eq_true c9
              clear c9
              by_cases c10 : x5_1.length < 8796093022208
              · rw [if_pos c10] at H
                have LMc10 := Aside0.mk c10
                clear c10
                obtain ⟨y121, hy121⟩ : ∃ y_ : List ByteArray, y_ = (x5_1 ++ [x0_1.extract 0 (t117 : Int).toNat]) := ⟨_, rfl⟩
                replace H : (if 0 ≤ (wrap64 (t117 + (a1.size : Int))) then (if (wrap64 (t117 + (a1.size : Int))) ≤ (x0_1.size : Int) then (semantic_zzSplit.l1 k1 (x0_1.extract ((wrap64 (t117 + (a1.size : Int))) : Int).toNat x0_1.size) a1 y121) else (none)) else (none)) = some r := by first | (rw [hy121]; with_reducible exact H) | (have H2_ := (Option.bind_some _ _).symm.trans H; rw [hy121]; with_reducible exact H2_) | (have H2_ := (Option.bind_some _ _).symm.trans H; with_reducible exact H2_) | with_reducible exact H | (rw [hy121]; exact H) | exact H
                have Ny121 := Aside0.mk hy121
                clear hy121
                obtain ⟨ji11, hji11⟩ : ∃ j_ : Int, (wrap64 (t117 + (a1.size : Int))) = j_ := ⟨_, rfl⟩
                replace H : (if 0 ≤ (ji11) then (if (ji11) ≤ (x0_1.size : Int) then (semantic_zzSplit.l1 k1 (x0_1.extract ((ji11) : Int).toNat x0_1.size) a1 y121) else (none)) else (none)) = some r := by first | (rw [hji11] at H; exact H) | (simp only [hji11] at H ⊢; exact H)
                (try rw [hji11] at A4)
                have hji11w : (IntKind.i64.wrap (t117 + (a1.size : Int))) = ji11 := (i64_w _).trans hji11
                by_cases c12 : 0 ≤ (ji11)
                · rw [if_pos c12] at H
                  have c12b0 := eq_true c12
                  have c12b1 : decide (0 ≤ (ji11)) = true := decide_eq_true c12
                  clear c12
                  by_cases c13 : (ji11) ≤ (x0_1.size : Int)
                  · rw [if_pos c13] at H
                    have c13b0 := eq_true c13
                    have c13b1 : decide ((ji11) ≤ (x0_1.size : Int)) = true := decide_eq_true c13
                    clear c13
                    have H' := Aside0.mk H
                    clear H
                    go_wp2_with (first | ((with_reducible refine gate_callee (f := 76) rfl ?_); refine goesL_ (some 39) rfl rfl Tryz.func76 (by kernel_rfl) rfl #[.string x0_1, .string a1] rfl (by (try simp only [List.map_toArray, List.map_cons, List.map_nil]); first | done | rfl | (simp only [List.length_drop, List.length_take]; rfl)) ?_; (with_reducible refine (semantic_zzIndex.calls k1 x0_1 a1 t117 _ A4.out).mono ?_); rintro e w' ⟨rfl, ⟨nd, rfl⟩⟩; refine ⟨_, rfl, ?_⟩) | ((with_reducible refine gate_builtin (b := .append) (xs := #[.tmp 46, .tmp 50]) rfl ?_); at_builtin; refine Kd.R_append Kd.string (w0 := w) w.heap.size rfl (.tmp 46) (.tmp 50) 28 9 (.string ⟨#[]⟩) 16 rfl Tryz.underlying28 info9 rfl (by decide) (by omega) u5 x5_1 (x0_1.extract 0 (t117 : Int).toNat) [.string (x0_1.extract 0 (t117 : Int).toNat)] (fun _ => True) (fun _ => False) rfl rfl ?aP (fun _ hk => hk.elim) ?aF ?aO ?aB ?aS ?aL ?_; (case aP => exact rfl); (case aB => exact (by repeat (first | (with_reducible first | exact HB.out | apply below_alloc | apply pw_below_drewN | apply below_drew1) | exact HB.out))); (case aF => exact (fun _ _ => trivial)); (case aO => exact (by (with_reducible repeat (first | apply Kd.R_alloc | apply Kd.R_drewN | apply Kd.R_drew)); exact HO_5.out)); (case aS => exact (below_size (by repeat (first | (with_reducible first | exact HB.out | apply below_alloc | apply pw_below_drewN | apply below_drew1) | exact HB.out)))); (case aL => have := LMc10.out; omega); intro v122 w14 ho hb hg hat; rw [← Ny121.out] at ho; have n0_ := Aside0.mk (hb); have n1_ := Aside0.mk (ho); clear HB; clear HO_5; have HB := n0_; have HO123 := n1_; clear n0_ n1_; clear ho hb hg hat))
                    go_roundg k1
                    case measure => have := HK1.out; omega
                    case rel => exact ⟨(x0_1.extract ((ji11) : Int).toNat x0_1.size), (y121), (by first | rfl | (simp; done) | (simp only [← hji11] <;> (first | rfl | simp)) | (simp [*]; done)), H', ⟨by have := HK1.out; omega⟩, ⟨by (with_reducible repeat (first | apply Kd.R_alloc | apply Kd.R_drewN | apply Kd.R_drew)); exact HO123.out⟩, ⟨by repeat (first | (with_reducible first | exact HB.out | apply below_alloc | apply pw_below_drewN | apply below_drew1) | exact HB.out)⟩⟩
                  · rw [if_neg c13] at H
                    exact absurd H (by simp)
                · rw [if_neg c12] at H
                  exact absurd H (by simp)
              · rw [if_neg c10] at H
                exact absurd H (by simp)
            · rw [if_neg c9] at H
              exact absurd H (by simp)
          · rw [if_neg c8] at H
            exact absurd H (by simp)

-- LEFT OUT: function 127

-- LEFT OUT: function 133

-- LEFT OUT: function 137

-- LEFT OUT: function 140

-- LEFT OUT: function 139

-- LEFT OUT: function 151

-- LEFT OUT: function 152

-- LEFT OUT: function 149

-- LEFT OUT: function 153

-- LEFT OUT: function 154

-- LEFT OUT: function 150

-- LEFT OUT: function 148

-- LEFT OUT: function 146

-- LEFT OUT: function 141

-- LEFT OUT: function 134

-- LEFT OUT: function 135

-- LEFT OUT: function 136

-- LEFT OUT: function 142

-- LEFT OUT: function 143

-- LEFT OUT: function 144

-- LEFT OUT: function 147

-- LEFT OUT: function 145

-- LEFT OUT: function 138

-- LEFT OUT: function 128

-- LEFT OUT: function 112

-- LEFT OUT: function 82

-- LEFT OUT: function 83

-- LEFT OUT: function 47

-- NOT PRINTED: function 40 (semantic_convertToBigInt)

-- GIVEN: function 85 (semantic_groupSegments)

/-! ### semantic_removeZeros: function 86 -/
def semantic_removeZeros.l0 : Nat → List ByteArray → Int → Option (List ByteArray)
  | 0, _, _ => none
  | k + 1, x0, x3 => if x3 ≥ 0 then (if 0 ≤ x3 then (if x3 < (x0.length : Int) then (if (rdOf ByteArray.empty x0 x3).toList = ([48] : List UInt8) then (semantic_removeZeros.l0 k x0 (wrap64 (x3 - 1))) else (if 0 ≤ (mx (wrap64 (x3 + 1)) 0) then (if (mx (wrap64 (x3 + 1)) 0) ≤ (x0.length : Int) then (some (x0.take ((mx (wrap64 (x3 + 1)) 0) : Int).toNat)) else (none)) else (none))) else (none)) else (none)) else (if 0 ≤ (mx x3 0) then (if (mx x3 0) ≤ (x0.length : Int) then (some (x0.take ((mx x3 0) : Int).toNat)) else (none)) else (none))
def semantic_removeZeros.f (k : Nat) (l0 : List ByteArray) : Option (List ByteArray) := semantic_removeZeros.l0 k l0 (wrap64 ((l0.length : Int) - 1))
theorem semantic_removeZeros.mono_l : ∀ k, (∀ y0 y1, LeO (semantic_removeZeros.l0 k y0 y1) (semantic_removeZeros.l0 (k + 1) y0 y1))
  | 0 => fun _ _ r h => by simp [semantic_removeZeros.l0] at h
  | k + 1 => by
    have ih0 := semantic_removeZeros.mono_l k
    · intro y0 y1
      unfold semantic_removeZeros.l0
      repeat' first
      | (with_reducible exact ih0 _ _)
      | (with_reducible exact LeO.refl _)
      | (with_reducible exact LeO.none _)
      | (with_reducible refine LeO.ite ?_ ?_)
      | (with_reducible refine LeO.bind ?_ (fun _ => ?_))
      | exact ih0 _ _
      | exact LeO.none _
      | refine LeO.ite ?_ ?_
      | refine LeO.bind ?_ (fun _ => ?_)
theorem semantic_removeZeros.mono : ∀ a0 k, LeO (semantic_removeZeros.f k a0) (semantic_removeZeros.f (k + 1) a0) := by
  intro a0 k
  have ih0 := semantic_removeZeros.mono_l k
  unfold semantic_removeZeros.f
  repeat' first
      | (with_reducible exact ih0 _ _)
      | (with_reducible exact LeO.refl _)
      | (with_reducible exact LeO.none _)
      | (with_reducible refine LeO.ite ?_ ?_)
      | (with_reducible refine LeO.bind ?_ (fun _ => ?_))
      | exact ih0 _ _
      | exact LeO.none _
      | refine LeO.ite ?_ ?_
      | refine LeO.bind ?_ (fun _ => ?_)
set_option maxHeartbeats 8000000 in
set_option maxRecDepth 100000 in
theorem semantic_removeZeros.calls (k : Nat) (P0_ : Nat → Prop) (u9000_ : Value) (l0 : List ByteArray) (r : List ByteArray) (w0 w : World) (hB : Below w0.heap.size w0 w) (ho0 : Kd.R Kd.string 9 w w0.heap.size P0_ u9000_ l0) (h : semantic_removeZeros.f k l0 = some r) :
    Calls Tryz.prog 86 #[u9000_] w fun e w' => ∃ v0_ : Value, e = .returned (v0_) ∧ Kd.R Kd.string 9 w' w0.heap.size (fun k_ => (P0_ k_ ∨ w.heap.size ≤ k_)) v0_ r ∧ Below w0.heap.size w0 w' ∧ Kept w w' (fun k_ => P0_ k_) := by
  have HO0 := Aside0.mk (show Kd.R Kd.string 9 w w0.heap.size (fun k_ => (P0_ k_ ∨ w.heap.size ≤ k_)) u9000_ l0 from Kd.R_mono ho0 (fun k_ hk => (.inl hk)))
  have HK := Aside0.mk (Kept.refl w (fun k_ => P0_ k_))
  have HW0 := Aside0.mk hB.size
  have HB := Aside0.mk hB
  clear hB
  have H : (semantic_removeZeros.l0 k l0 (wrap64 ((l0.length : Int) - 1))) = some r := h
  clear h
  have H' := Aside0.mk H
  clear H
  obtain ⟨Ao2, co2, eo2⟩ := Kd.R_slice HO0.out
  subst eo2
  go_enter Tryz.func86, Tryz.ntmps86
  go_wp2
  go_loopg [3] k (fun kq v3 w' => ∃ (x3_1 : Int), v3 = .int .i64 x3_1 ∧ Aside0 (semantic_removeZeros.l0 kq l0 x3_1 = some r) ∧ Aside0 (kq ≤ k) ∧ Aside0 (Kd.R Kd.string 9 w' w0.heap.size (fun k_ => (P0_ k_ ∨ w.heap.size ≤ k_)) (.slice Ao2 l0.length co2) l0) ∧ Aside0 (Kept w w' (fun k_ => P0_ k_)) ∧ Aside0 (Below w0.heap.size w0 w'))
  case atStart => exact ⟨(wrap64 ((l0.length : Int) - 1)), (by first | rfl | (simp; done) | (simp [*]; done) | (simp [bne_nil_]; done)), H', ⟨Nat.le_refl _⟩, ⟨by (with_reducible repeat (first | apply Kd.R_alloc | apply Kd.R_drewN | apply Kd.R_drew)); exact HO0.out⟩, ⟨by repeat (first | (with_reducible first | exact HK.out | apply Kept.alloc | apply Kept.drewN | apply Kept.drew) | exact HK.out)⟩, ⟨by repeat (first | (with_reducible first | exact HB.out | apply below_alloc | apply pw_below_drewN | apply below_drew1) | exact HB.out)⟩⟩
  case round =>
    clear H'
    try clear p2
    obtain ⟨x3_1, rfl, HA, HK1, HO_0, HK, HB⟩ := hrel
    cases gk with
    | zero => exact absurd HA.out (by simp [semantic_removeZeros.l0])
    | succ k1 =>
      have H := HA.out
      clear HA
      simp only [semantic_removeZeros.l0] at H
      by_cases c3 : x3_1 ≥ 0
      · rw [if_pos c3] at H
        have c3b0 : decide (0 ≤ x3_1) = true := decide_eq_true c3
        clear c3
        by_cases c4 : 0 ≤ x3_1
        · rw [if_pos c4] at H
          have c4b0 : decide (0 ≤ x3_1) = true := decide_eq_true c4
          clear c4
          by_cases c5 : x3_1 < (l0.length : Int)
          · rw [if_pos c5] at H
            have c5b0 : decide (x3_1 < (l0.length : Int)) = true := decide_eq_true c5
            clear c5
            by_cases c6 : (rdOf ByteArray.empty l0 x3_1).toList = ([48] : List UInt8)
            · rw [if_pos c6] at H
              have c6b0 : ((rdOf ByteArray.empty l0 x3_1).toList == ([48] : List UInt8)) = true := beq_iff_eq.mpr c6
              have c6b1 : ((rdOf ByteArray.empty l0 x3_1).toList != ([48] : List UInt8)) = false := bne_eq_false_iff_eq.mpr c6
              clear c6
              have H' := Aside0.mk H
              clear H
              have p124 : 0 ≤ (x3_1 : Int) := of_decide_eq_true (by first | (with_reducible assumption) | assumption)
              have q124 : x3_1 < (l0.length : Int) := of_decide_eq_true (by first | (with_reducible assumption) | assumption)
              obtain ⟨ad124, e124, hx124_0⟩ := Kd.at_string (Kd.R_reads' HO_0.out).2.2 x3_1 p124 q124
              cases e124
              replace p124 := eq_true p124
              replace q124 := eq_true q124
              go_wp2
              go_roundg k1
              case measure => have := HK1.out; omega
              case rel => exact ⟨(wrap64 (x3_1 - 1)), (by first | rfl | (simp; done) | (simp [*]; done) | (simp [bne_nil_]; done)), H', ⟨by have := HK1.out; omega⟩, ⟨by (with_reducible repeat (first | apply Kd.R_alloc | apply Kd.R_drewN | apply Kd.R_drew)); exact HO_0.out⟩, ⟨by repeat (first | (with_reducible first | exact HK.out | apply Kept.alloc | apply Kept.drewN | apply Kept.drew) | exact HK.out)⟩, ⟨by repeat (first | (with_reducible first | exact HB.out | apply below_alloc | apply pw_below_drewN | apply below_drew1) | exact HB.out)⟩⟩
            · rw [if_neg c6] at H
              have c6b0 : ((rdOf ByteArray.empty l0 x3_1).toList == ([48] : List UInt8)) = false := beq_eq_false_iff_ne.mpr c6
              have c6b1 : ((rdOf ByteArray.empty l0 x3_1).toList != ([48] : List UInt8)) = true := bne_iff_ne.mpr c6
              obtain ⟨ji7, hji7⟩ : ∃ j_ : Int, (mx (wrap64 (x3_1 + 1)) 0) = j_ := ⟨_, rfl⟩
              replace H : (if 0 ≤ (ji7) then (if (ji7) ≤ (l0.length : Int) then (some (l0.take ((ji7) : Int).toNat)) else (none)) else (none)) = some r := by first | (rw [hji7] at H; exact H) | (simp only [hji7] at H ⊢; exact H)
              have hji7_ : (if (wrap64 (x3_1 + 1)) < 0 then 0 else (wrap64 (x3_1 + 1))) = ji7 := hji7
              by_cases c8 : 0 ≤ (ji7)
              · rw [if_pos c8] at H
                have c8b0 := eq_true c8
                have c8b1 : decide (0 ≤ (ji7)) = true := decide_eq_true c8
                clear c8
                by_cases c9 : (ji7) ≤ (l0.length : Int)
                · rw [if_pos c9] at H
                  have c9b0 := eq_true c9
                  have c9b1 : decide ((ji7) ≤ (l0.length : Int)) = true := decide_eq_true c9
                  clear c9
                  obtain ⟨y125, hy125⟩ : ∃ y_ : List ByteArray, y_ = (l0.take ((ji7) : Int).toNat) := ⟨_, rfl⟩
                  replace H : (some y125) = some r := by first | (rw [hy125]; with_reducible exact H) | (have H2_ := (Option.bind_some _ _).symm.trans H; rw [hy125]; with_reducible exact H2_) | (have H2_ := (Option.bind_some _ _).symm.trans H; with_reducible exact H2_) | with_reducible exact H | (rw [hy125]; exact H) | exact H
                  have Ny125 := Aside0.mk hy125
                  clear hy125
                  obtain rfl := Option.some.inj H
                  have p124 : 0 ≤ (x3_1 : Int) := of_decide_eq_true (by first | (with_reducible assumption) | assumption)
                  have q124 : x3_1 < (l0.length : Int) := of_decide_eq_true (by first | (with_reducible assumption) | assumption)
                  obtain ⟨ad124, e124, hx124_0⟩ := Kd.at_string (Kd.R_reads' HO_0.out).2.2 x3_1 p124 q124
                  cases e124
                  replace p124 := eq_true p124
                  replace q124 := eq_true q124
                  have q10 : ((ji7) : Int) ≤ ((l0.length : Int) : Int) := of_decide_eq_true (by first | (with_reducible assumption) | assumption)
                  obtain ⟨i010, hi010, _, hsz10, _⟩ := info_parts info9
                  have hcut10 := cut_to (P := Tryz.prog) 28 9 .i64 Tryz.underlying28 hi010 (some ad124) l0.length co2 (ji7) (of_decide_eq_true (by first | (with_reducible assumption) | assumption)) q10 (Kd.R_reads' HO_0.out).2.1
                  have hr10 := Kd.R_take (m := ((ji7) : Int).toNat) HO_0.out (by omega)
                  have hy10 : y125.length = ((ji7) : Int).toNat := (by rw [Ny125.out, List.length_take]; omega)
                  rw [← Ny125.out] at hr10
                  rw [← hy10] at hr10 hcut10
                  clear hy10 hi010 hsz10 HO_0
                  have HO127 := Aside0.mk hr10
                  clear hr10
                  replace q10 := eq_true q10
                  go_wp2
                  go_ret
                  exact ⟨_, by first | rfl | (simp [errW_none, errW_some] <;> rfl) | (simp only [← hji7]; first | rfl | (simp [errW_none, errW_some] <;> rfl)) | (simp [*, errW_none, errW_some] <;> rfl) | (simp [bne_nil_]; done), by (with_reducible repeat (first | apply Kd.R_alloc | apply Kd.R_drewN | apply Kd.R_drew)); exact HO127.out, by repeat (first | (with_reducible first | exact HB.out | apply below_alloc | apply pw_below_drewN | apply below_drew1) | exact HB.out), by repeat (first | (with_reducible first | exact HK.out | apply Kept.alloc | apply Kept.drewN | apply Kept.drew) | exact HK.out)⟩
                · rw [if_neg c9] at H
                  exact absurd H (by simp)
              · rw [if_neg c8] at H
                exact absurd H (by simp)
          · rw [if_neg c5] at H
            exact absurd H (by simp)
        · rw [if_neg c4] at H
          exact absurd H (by simp)
      · rw [if_neg c3] at H
        have c3b0 : decide (0 ≤ x3_1) = false := decide_eq_false c3
        clear c3
        obtain ⟨ji11, hji11⟩ : ∃ j_ : Int, (mx x3_1 0) = j_ := ⟨_, rfl⟩
        replace H : (if 0 ≤ (ji11) then (if (ji11) ≤ (l0.length : Int) then (some (l0.take ((ji11) : Int).toNat)) else (none)) else (none)) = some r := by first | (rw [hji11] at H; exact H) | (simp only [hji11] at H ⊢; exact H)
        have hji11_ : (if x3_1 < 0 then 0 else x3_1) = ji11 := hji11
        by_cases c12 : 0 ≤ (ji11)
        · rw [if_pos c12] at H
          have c12b0 := eq_true c12
          have c12b1 : decide (0 ≤ (ji11)) = true := decide_eq_true c12
          clear c12
          by_cases c13 : (ji11) ≤ (l0.length : Int)
          · rw [if_pos c13] at H
            have c13b0 := eq_true c13
            have c13b1 : decide ((ji11) ≤ (l0.length : Int)) = true := decide_eq_true c13
            clear c13
            obtain ⟨y128, hy128⟩ : ∃ y_ : List ByteArray, y_ = (l0.take ((ji11) : Int).toNat) := ⟨_, rfl⟩
            replace H : (some y128) = some r := by first | (rw [hy128]; with_reducible exact H) | (have H2_ := (Option.bind_some _ _).symm.trans H; rw [hy128]; with_reducible exact H2_) | (have H2_ := (Option.bind_some _ _).symm.trans H; with_reducible exact H2_) | with_reducible exact H | (rw [hy128]; exact H) | exact H
            have Ny128 := Aside0.mk hy128
            clear hy128
            obtain rfl := Option.some.inj H
            have q14 : ((ji11) : Int) ≤ ((l0.length : Int) : Int) := of_decide_eq_true (by first | (with_reducible assumption) | assumption)
            obtain ⟨i014, hi014, _, hsz14, _⟩ := info_parts info9
            have hcut14 := cut_to (P := Tryz.prog) 28 9 .i64 Tryz.underlying28 hi014 Ao2 l0.length co2 (ji11) (of_decide_eq_true (by first | (with_reducible assumption) | assumption)) q14 (Kd.R_reads' HO_0.out).2.1
            have hr14 := Kd.R_take (m := ((ji11) : Int).toNat) HO_0.out (by omega)
            have hy14 : y128.length = ((ji11) : Int).toNat := (by rw [Ny128.out, List.length_take]; omega)
            rw [← Ny128.out] at hr14
            rw [← hy14] at hr14 hcut14
            clear hy14 hi014 hsz14 HO_0
            have HO130 := Aside0.mk hr14
            clear hr14
            replace q14 := eq_true q14
            go_wp2
            go_ret
            exact ⟨_, by first | rfl | (simp [errW_none, errW_some] <;> rfl) | (simp only [← hji11]; first | rfl | (simp [errW_none, errW_some] <;> rfl)) | (simp [*, errW_none, errW_some] <;> rfl) | (simp [bne_nil_]; done), by (with_reducible repeat (first | apply Kd.R_alloc | apply Kd.R_drewN | apply Kd.R_drew)); exact HO130.out, by repeat (first | (with_reducible first | exact HB.out | apply below_alloc | apply pw_below_drewN | apply below_drew1) | exact HB.out), by repeat (first | (with_reducible first | exact HK.out | apply Kept.alloc | apply Kept.drewN | apply Kept.drew) | exact HK.out)⟩
          · rw [if_neg c13] at H
            exact absurd H (by simp)
        · rw [if_neg c12] at H
          exact absurd H (by simp)

/-! ### semantic_canonicalSegments: function 49 -/
def semantic_canonicalSegments.f (k : Nat) (l0 : List ByteArray) : Option (List ByteArray) := (Giv.semantic_groupSegments.f l0).bind fun bt131 => ((semantic_removeZeros.f k bt131.1).bind fun t137 => ((semantic_removeZeros.f k bt131.2).bind fun t140 => (if t137.length + t140.length < 8796093022208 then (some (t137 ++ t140)) else (none))))
theorem semantic_canonicalSegments.mono : ∀ a0 k, LeO (semantic_canonicalSegments.f k a0) (semantic_canonicalSegments.f (k + 1) a0) := by
  intro a0 k
  unfold semantic_canonicalSegments.f
  repeat' first
      | (with_reducible exact semantic_removeZeros.mono _ _)
      | (with_reducible exact LeO.refl _)
      | (with_reducible exact LeO.none _)
      | (with_reducible refine LeO.ite ?_ ?_)
      | (with_reducible refine LeO.bind ?_ (fun _ => ?_))
      | exact semantic_removeZeros.mono _ _
      | exact LeO.none _
      | refine LeO.ite ?_ ?_
      | refine LeO.bind ?_ (fun _ => ?_)
set_option maxHeartbeats 8000000 in
set_option maxRecDepth 100000 in
theorem semantic_canonicalSegments.calls (k : Nat) (A0 : Option Addr) (c0 : Nat) (l0 : List ByteArray) (r : List ByteArray) (w : World) (hr0 : Kd.C Kd.string w A0 l0.length l0) (hc0 : l0.length ≤ c0) (h : semantic_canonicalSegments.f k l0 = some r) (hL : Giv.Laid w) :
    Calls Tryz.prog 49 #[.slice A0 l0.length c0] w fun e w' => ∃ v0_ : Value, e = .returned (v0_) ∧ Kd.R Kd.string 9 w' w.heap.size (fun _ => True) v0_ r ∧ Below w.heap.size w w' := by
  have HLd := Aside0.mk hL
  clear hL
  have HR0 := Aside0.mk hr0
  have HC0 := Aside0.mk hc0
  clear hr0 hc0
  have HB := Aside0.mk (Below.refl w.heap.size w)
  have H : ((Giv.semantic_groupSegments.f l0).bind fun bt131 => ((semantic_removeZeros.f k bt131.1).bind fun t137 => ((semantic_removeZeros.f k bt131.2).bind fun t140 => (if t137.length + t140.length < 8796093022208 then (some (t137 ++ t140)) else (none))))) = some r := h
  clear h
  replace H := Option.bind_eq_some_iff.mp H
  obtain ⟨⟨t131, t132⟩, A20, H⟩ := H
  replace H : ((semantic_removeZeros.f k t131).bind fun t137 => ((semantic_removeZeros.f k t132).bind fun t140 => (if t137.length + t140.length < 8796093022208 then (some (t137 ++ t140)) else (none)))) = some r := H
  have A2 := Aside0.mk A20
  clear A20
  replace H := Option.bind_eq_some_iff.mp H
  obtain ⟨t137, A30, H⟩ := H
  replace H : ((semantic_removeZeros.f k t132).bind fun t140 => (if t137.length + t140.length < 8796093022208 then (some (t137 ++ t140)) else (none))) = some r := H
  have A3 := Aside0.mk A30
  clear A30
  replace H := Option.bind_eq_some_iff.mp H
  obtain ⟨t140, A40, H⟩ := H
  replace H : (if t137.length + t140.length < 8796093022208 then (some (t137 ++ t140)) else (none)) = some r := H
  have A4 := Aside0.mk A40
  clear A40
  by_cases c5 : t137.length + t140.length < 8796093022208
  · rw [if_pos c5] at H
    have LMc5 := Aside0.mk c5
    clear c5
    obtain ⟨y143, hy143⟩ : ∃ y_ : List ByteArray, y_ = (t137 ++ t140) := ⟨_, rfl⟩
    replace H : (some y143) = some r := by first | (rw [hy143]; with_reducible exact H) | (have H2_ := (Option.bind_some _ _).symm.trans H; rw [hy143]; with_reducible exact H2_) | (have H2_ := (Option.bind_some _ _).symm.trans H; with_reducible exact H2_) | with_reducible exact H | (rw [hy143]; exact H) | exact H
    have Ny143 := Aside0.mk hy143
    clear hy143
    obtain rfl := Option.some.inj H
    go_enter Tryz.func49, Tryz.ntmps49
    go_wp2_with (first | ((with_reducible refine gate_callee (f := 85) rfl ?_); refine goesL_ (some 7) rfl rfl Tryz.func85 (by kernel_rfl) rfl #[.slice A0 l0.length c0] rfl (by (try simp only [List.map_toArray, List.map_cons, List.map_nil]); first | done | rfl | (simp only [List.length_drop, List.length_take]; rfl)) ?_; (with_reducible refine (Giv.semantic_groupSegments.calls _ _ l0 t131 t132 _ ?side1 ?side2 A2.out (HLd.out.below (by repeat (first | (with_reducible first | exact HB.out | apply below_alloc | apply pw_below_drewN | apply below_drew1) | exact HB.out)))).mono ?_); (case side1 => repeat (first | exact HR0.out | (with_reducible refine Kd.C_alloc ?_ _) | (with_reducible refine Kd.C_drewN ?_ _) | (with_reducible refine Kd.C_drew ?_))); (case side2 => exact HC0.out); rintro e w6 ⟨v133, v135, rfl, ho0, ho1, hb⟩; refine ⟨_, rfl, ?_⟩; have n0_ := Aside0.mk (Kd.R_lower ho0 (below_size (by repeat (first | (with_reducible first | exact HB.out | apply below_alloc | apply pw_below_drewN | apply below_drew1) | exact HB.out)))); have n1_ := Aside0.mk (Kd.R_lower ho1 (below_size (by repeat (first | (with_reducible first | exact HB.out | apply below_alloc | apply pw_below_drewN | apply below_drew1) | exact HB.out)))); have n2_ := Aside0.mk (below_step (by repeat (first | (with_reducible first | exact HB.out | apply below_alloc | apply pw_below_drewN | apply below_drew1) | exact HB.out)) hb); clear HB; have HO134 := n0_; have HO136 := n1_; have HB := n2_; clear n0_ n1_ n2_; (try clear hb); (try clear hb2); (try clear hk); (try clear hi); (try clear ho0); (try clear ho1); obtain ⟨Ao7, co7, eo7⟩ := Kd.R_slice HO134.out; subst eo7) | ((with_reducible refine gate_callee (f := 86) rfl ?_); refine goesL_ (some 11) rfl rfl Tryz.func86 (by kernel_rfl) rfl #[.slice Ao7 t131.length co7] rfl (by (try simp only [List.map_toArray, List.map_cons, List.map_nil]); first | done | rfl | (simp only [List.length_drop, List.length_take]; rfl)) ?_; (with_reducible refine (semantic_removeZeros.calls k (fun k_ => some k_ = (.slice Ao7 t131.length co7 : Value).ownBlock) (.slice Ao7 t131.length co7) t131 t137 w _ ?side1 ?side2 A3.out).mono ?_); (case side1 => repeat (first | (with_reducible first | exact HB.out | apply below_alloc | apply pw_below_drewN | apply below_drew1) | exact HB.out)); (case side2 => exact Kd.R_tight rfl HO134.out); rintro e w8 ⟨v138, rfl, ho0, hb, hkp⟩; refine ⟨_, rfl, ?_⟩; have n0_ := Aside0.mk (Kd.R_mono (ok' := fun k_ => some k_ ≠ (v138 : Value).ownBlock) (Kd.R_keptB (HO136.out) hkp (fun k_ hk_ hs_ => (hk_) hs_)) (fun k_ hk_ => fun e_ => Or.elim (ho0.1 k_ e_.symm) (fun hs_ => hk_.2.1 hs_) (fun hn_ => Nat.not_le.2 hk_.2.2 hn_))); have n1_ := Aside0.mk (Kd.R_mono (ok' := fun k_ => some k_ ≠ (v135 : Value).ownBlock) ho0 (fun k_ hk_ => Or.elim hk_ (fun hs_ => fun e_ => (((HO136.out).1 k_ e_.symm)) hs_) (fun hn_ => (Kd.fresh' (Kd.R_lt (by (with_reducible repeat (first | apply Kd.R_alloc | apply Kd.R_drewN | apply Kd.R_drew)); exact HO136.out)) k_ hn_)))); have n2_ := Aside0.mk (hb); clear HO136; clear HB; clear HO134; have HO136 := n0_; have HO139 := n1_; have HB := n2_; clear n0_ n1_ n2_; (try clear hb); (try clear hkp); (try clear ho0); obtain ⟨Ao9, co9, eo9⟩ := Kd.R_slice HO136.out; subst eo9) | ((with_reducible refine gate_callee (f := 86) rfl ?_); refine goesL_ (some 13) rfl rfl Tryz.func86 (by kernel_rfl) rfl #[.slice Ao9 t132.length co9] rfl (by (try simp only [List.map_toArray, List.map_cons, List.map_nil]); first | done | rfl | (simp only [List.length_drop, List.length_take]; rfl)) ?_; (with_reducible refine (semantic_removeZeros.calls k (fun k_ => some k_ = (.slice Ao9 t132.length co9 : Value).ownBlock) (.slice Ao9 t132.length co9) t132 t140 w _ ?side1 ?side2 A4.out).mono ?_); (case side1 => repeat (first | (with_reducible first | exact HB.out | apply below_alloc | apply pw_below_drewN | apply below_drew1) | exact HB.out)); (case side2 => exact Kd.R_tight rfl HO136.out); rintro e w10 ⟨v141, rfl, ho0, hb, hkp⟩; refine ⟨_, rfl, ?_⟩; have n0_ := Aside0.mk (Kd.R_mono (ok' := fun k_ => some k_ ≠ (v141 : Value).ownBlock) (Kd.R_keptB (HO139.out) hkp (fun k_ hk_ hs_ => (hk_) hs_)) (fun k_ hk_ => fun e_ => Or.elim (ho0.1 k_ e_.symm) (fun hs_ => hk_.2.1 hs_) (fun hn_ => Nat.not_le.2 hk_.2.2 hn_))); have n1_ := Aside0.mk (Kd.R_mono (ok' := fun k_ => some k_ ≠ (v138 : Value).ownBlock) ho0 (fun k_ hk_ => Or.elim hk_ (fun hs_ => fun e_ => (((HO139.out).1 k_ e_.symm)) hs_) (fun hn_ => (Kd.fresh' (Kd.R_lt (by (with_reducible repeat (first | apply Kd.R_alloc | apply Kd.R_drewN | apply Kd.R_drew)); exact HO139.out)) k_ hn_)))); have n2_ := Aside0.mk (hb); clear HO139; clear HB; clear HO136; have HO139 := n0_; have HO142 := n1_; have HB := n2_; clear n0_ n1_ n2_; (try clear hb); (try clear hkp); (try clear ho0); obtain ⟨Ao12, co12, eo12⟩ := Kd.R_slice HO142.out; subst eo12) | ((with_reducible refine gate_builtin (b := .append) (xs := #[.tmp 11, .tmp 13]) rfl ?_); at_builtin; refine Kd.R_append_rows Kd.string (w0 := w) w.heap.size rfl (.tmp 11) (.tmp 13) 28 9 (.string ⟨#[]⟩) 16 rfl Tryz.underlying28 info9 rfl (by decide) (by omega) v138 t137 t140 _ _ _ (fun k_ => some k_ ≠ (.slice Ao12 t140.length co12 : Value).ownBlock) (fun _ => False) rfl rfl ?aO ?aR (fun _ _ h => h) (fun _ h => h.elim) ?aF ?aB ?aS ?aL ?_; (case aR => repeat (first | exact (Kd.R_reads' HO142.out).2.2 | (with_reducible refine Kd.C_alloc ?_ _) | (with_reducible refine Kd.C_drewN ?_ _) | (with_reducible refine Kd.C_drew ?_))); (case aB => exact (by repeat (first | (with_reducible first | exact HB.out | apply below_alloc | apply pw_below_drewN | apply below_drew1) | exact HB.out))); (case aF => exact (fun k_ hk => Kd.fresh' (Kd.R_lt (by (with_reducible repeat (first | apply Kd.R_alloc | apply Kd.R_drewN | apply Kd.R_drew)); exact HO142.out)) k_ hk)); (case aO => exact (by (with_reducible repeat (first | apply Kd.R_alloc | apply Kd.R_drewN | apply Kd.R_drew)); exact HO139.out)); (case aS => exact (below_size (by repeat (first | (with_reducible first | exact HB.out | apply below_alloc | apply pw_below_drewN | apply below_drew1) | exact HB.out)))); (case aL => have := LMc5.out; omega); intro v144 w11 ho hb hg hat; rw [← Ny143.out] at ho; have n0_ := Aside0.mk (Kd.R_after (ok := (fun _ => True)) (by (with_reducible repeat (first | apply Kd.R_alloc | apply Kd.R_drewN | apply Kd.R_drew)); exact Kd.R_mono HO142.out (fun _ hk => ⟨trivial, hk⟩)) hg hat); have n1_ := Aside0.mk (hb); have n2_ := Aside0.mk (ho); clear HO142; clear HB; clear HO139; have HO142 := n0_; have HB := n1_; have HO145 := n2_; clear n0_ n1_ n2_; clear ho hb hg hat))
    go_ret
    exact ⟨_, by first | rfl | (simp [errW_none, errW_some] <;> rfl) | (simp [*, errW_none, errW_some] <;> rfl) | (simp [bne_nil_]; done), by (with_reducible repeat (first | apply Kd.R_alloc | apply Kd.R_drewN | apply Kd.R_drew)); exact Kd.R_mono HO145.out (fun _ hk => trivial), by repeat (first | (with_reducible first | exact HB.out | apply below_alloc | apply pw_below_drewN | apply below_drew1) | exact HB.out)⟩
  · rw [if_neg c5] at H
    exact absurd H (by simp)

-- LEFT OUT: function 87

-- GIVEN: function 50 (semantic_canonicalizeRubyGemVersion)

/-! ### semantic_ParseRubyGemsVersion: function 23 -/
def semantic_ParseRubyGemsVersion.f (k : Nat) (a0 : ByteArray) : Option (ByteArray × List ByteArray) := (Giv.semantic_canonicalizeRubyGemVersion.f a0).bind fun t147 => ((semantic_zzSplit.f k t147 (⟨#[46]⟩ : ByteArray)).bind fun t148 => ((semantic_canonicalSegments.f k t148).bind fun t151 => (some (a0, t151))))
theorem semantic_ParseRubyGemsVersion.mono : ∀ a0 k, LeO (semantic_ParseRubyGemsVersion.f k a0) (semantic_ParseRubyGemsVersion.f (k + 1) a0) := by
  intro a0 k
  unfold semantic_ParseRubyGemsVersion.f
  repeat' first
      | (with_reducible exact semantic_canonicalSegments.mono _ _)
      | (with_reducible exact semantic_zzSplit.mono _ _ _)
      | (with_reducible exact LeO.refl _)
      | (with_reducible exact LeO.none _)
      | (with_reducible refine LeO.ite ?_ ?_)
      | (with_reducible refine LeO.bind ?_ (fun _ => ?_))
      | exact semantic_canonicalSegments.mono _ _
      | exact semantic_zzSplit.mono _ _ _
      | exact LeO.none _
      | refine LeO.ite ?_ ?_
      | refine LeO.bind ?_ (fun _ => ?_)
set_option maxHeartbeats 8000000 in
set_option maxRecDepth 100000 in
theorem semantic_ParseRubyGemsVersion.calls (k : Nat) (a0 : ByteArray) (r1 : ByteArray) (r2 : List ByteArray) (w : World) (h : semantic_ParseRubyGemsVersion.f k a0 = some (r1, r2)) (hL : Giv.Laid w) :
    Calls Tryz.prog 23 #[.string a0] w fun e w' => ∃ v1_ : Value, e = .returned (.agg #[.string r1, v1_]) ∧ Kd.R Kd.string 9 w' w.heap.size (fun _ => True) v1_ r2 ∧ Below w.heap.size w w' := by
  have HLd := Aside0.mk hL
  clear hL
  have hu51 := Tryz.underlying51
  have HB := Aside0.mk (Below.refl w.heap.size w)
  have H : ((Giv.semantic_canonicalizeRubyGemVersion.f a0).bind fun t147 => ((semantic_zzSplit.f k t147 (⟨#[46]⟩ : ByteArray)).bind fun t148 => ((semantic_canonicalSegments.f k t148).bind fun t151 => (some (a0, t151))))) = some (r1, r2) := h
  clear h
  replace H := Option.bind_eq_some_iff.mp H
  obtain ⟨t147, A20, H⟩ := H
  replace H : ((semantic_zzSplit.f k t147 (⟨#[46]⟩ : ByteArray)).bind fun t148 => ((semantic_canonicalSegments.f k t148).bind fun t151 => (some (a0, t151)))) = some (r1, r2) := H
  have A2 := Aside0.mk A20
  clear A20
  replace H := Option.bind_eq_some_iff.mp H
  obtain ⟨t148, A30, H⟩ := H
  replace H : ((semantic_canonicalSegments.f k t148).bind fun t151 => (some (a0, t151))) = some (r1, r2) := H
  have A3 := Aside0.mk A30
  clear A30
  replace H := Option.bind_eq_some_iff.mp H
  obtain ⟨t151, A40, H⟩ := H
  replace H : (some (a0, t151)) = some (r1, r2) := H
  have A4 := Aside0.mk A40
  clear A40
  simp only [Option.some.injEq, Prod.mk.injEq] at H
  obtain ⟨rfl, rfl⟩ := H
  go_enter Tryz.func23, Tryz.ntmps23
  go_wp2_with (first | ((with_reducible refine gate_dst (N := 2) rfl ?_); refine box_event ?hg (N := 2) ?hd (cs := #[.string (⟨#[]⟩ : ByteArray), .slice none 0 0]) (t := 51) ?hr ?_; (case hd => rfl); (case hg => rfl); (case hr => first | (go_simp; done) | (go_simp; rfl)); intro gb146 hg w5 hbox hb; have n0_ := Aside0.mk (below_step (by repeat (first | (with_reducible first | exact HB.out | apply below_alloc | apply pw_below_drewN | apply below_drew1) | exact HB.out)) hb); have n1_ := Aside0.mk (hbox); have n2_ := Aside0.mk ((by rw [hg]; exact (below_size (by repeat (first | (with_reducible first | exact HB.out | apply below_alloc | apply pw_below_drewN | apply below_drew1) | exact HB.out))) : w.heap.size ≤ gb146)); have n3_ := Aside0.mk ((by rw [hg]; exact (below_size (by repeat (first | (with_reducible first | exact HB.out | apply below_alloc | apply pw_below_drewN | apply below_drew1) | exact HB.out))) : w.heap.size ≤ gb146)); clear HB; have HB := n0_; have BK146 := n1_; have GW146 := n2_; have GE146 := n3_; clear n0_ n1_ n2_ n3_; clear hb hbox hg) | ((with_reducible refine gate_callee (f := 50) rfl ?_); refine goesL_ (some 5) rfl rfl Tryz.func50 (by kernel_rfl) rfl #[.string a0] rfl (by (try simp only [List.map_toArray, List.map_cons, List.map_nil]); first | done | rfl | (simp only [List.length_drop, List.length_take]; rfl)) ?_; (with_reducible refine (Giv.semantic_canonicalizeRubyGemVersion.calls a0 t147 _ A2.out).mono ?_); rintro e w6 ⟨rfl, hb⟩; refine ⟨_, rfl, ?_⟩; have n0_ := Aside0.mk (blk_below (g := gb146) (o := .cells #[.string (⟨#[]⟩ : ByteArray), .slice none 0 0] 51 (0, 0)) (by (with_reducible repeat (first | refine blk_drewN ?_ _ | refine blk_drew ?_ | refine blk_alloc ?_ _)); exact BK146.out) hb); have n1_ := Aside0.mk (below_step (by repeat (first | (with_reducible first | exact HB.out | apply below_alloc | apply pw_below_drewN | apply below_drew1 | refine below_set ?_ GE146.out) | exact HB.out)) hb); clear BK146; clear HB; have BK146 := n0_; have HB := n1_; clear n0_ n1_; (try clear hb); (try clear hb2); (try clear hk); (try clear hi)) | ((with_reducible refine gate_callee (f := 45) rfl ?_); refine goesL_ (some 6) rfl rfl Tryz.func45 (by kernel_rfl) rfl #[.string t147, .string (⟨#[46]⟩ : ByteArray)] rfl (by (try simp only [List.map_toArray, List.map_cons, List.map_nil]); first | done | rfl | (simp only [List.length_drop, List.length_take]; rfl)) ?_; (with_reducible refine (semantic_zzSplit.calls k t147 (⟨#[46]⟩ : ByteArray) t148 _ A3.out).mono ?_); rintro e w7 ⟨v149, rfl, ho0, hb⟩; refine ⟨_, rfl, ?_⟩; have n0_ := Aside0.mk (Kd.R_lower ho0 (below_size (by repeat (first | (with_reducible first | exact HB.out | apply below_alloc | apply pw_below_drewN | apply below_drew1 | refine below_set ?_ GE146.out) | exact HB.out)))); have n1_ := Aside0.mk (blk_below (g := gb146) (o := .cells #[.string (⟨#[]⟩ : ByteArray), .slice none 0 0] 51 (0, 0)) (by (with_reducible repeat (first | refine blk_drewN ?_ _ | refine blk_drew ?_ | refine blk_alloc ?_ _)); exact BK146.out) hb); have n2_ := Aside0.mk (below_step (by repeat (first | (with_reducible first | exact HB.out | apply below_alloc | apply pw_below_drewN | apply below_drew1 | refine below_set ?_ GE146.out) | exact HB.out)) hb); clear BK146; clear HB; have HO150 := n0_; have BK146 := n1_; have HB := n2_; clear n0_ n1_ n2_; (try clear hb); (try clear hb2); (try clear hk); (try clear hi); (try clear ho0); obtain ⟨Ao8, co8, eo8⟩ := Kd.R_slice HO150.out; subst eo8) | ((with_reducible refine gate_callee (f := 49) rfl ?_); refine goesL_ (some 7) rfl rfl Tryz.func49 (by kernel_rfl) rfl #[.slice Ao8 t148.length co8] rfl (by (try simp only [List.map_toArray, List.map_cons, List.map_nil]); first | done | rfl | (simp only [List.length_drop, List.length_take]; rfl)) ?_; (with_reducible refine (semantic_canonicalSegments.calls k _ _ t148 t151 _ ?side1 ?side2 A4.out (HLd.out.below (by repeat (first | (with_reducible first | exact HB.out | apply below_alloc | apply pw_below_drewN | apply below_drew1 | refine below_set ?_ GE146.out) | exact HB.out)))).mono ?_); (case side1 => repeat (first | exact (Kd.R_reads' HO150.out).2.2 | (with_reducible refine Kd.C_alloc ?_ _) | (with_reducible refine Kd.C_drewN ?_ _) | (with_reducible refine Kd.C_drew ?_))); (case side2 => exact (Kd.R_reads' HO150.out).2.1); rintro e w9 ⟨v152, rfl, ho0, hb⟩; refine ⟨_, rfl, ?_⟩; have n0_ := Aside0.mk (Kd.R_elder' (by (with_reducible repeat (first | apply Kd.R_alloc | apply Kd.R_drewN | apply Kd.R_drew)); exact HO150.out) (Kd.R_base ho0) hb); have n1_ := Aside0.mk (Kd.R_lower (Kd.R_new' ho0 (Kd.R_lt (by (with_reducible repeat (first | apply Kd.R_alloc | apply Kd.R_drewN | apply Kd.R_drew)); exact HO150.out))) (below_size (by repeat (first | (with_reducible first | exact HB.out | apply below_alloc | apply pw_below_drewN | apply below_drew1 | refine below_set ?_ GE146.out) | exact HB.out)))); have n2_ := Aside0.mk (blk_below (g := gb146) (o := .cells #[.string (⟨#[]⟩ : ByteArray), .slice none 0 0] 51 (0, 0)) (by (with_reducible repeat (first | refine blk_drewN ?_ _ | refine blk_drew ?_ | refine blk_alloc ?_ _)); exact BK146.out) hb); have n3_ := Aside0.mk (below_step (by repeat (first | (with_reducible first | exact HB.out | apply below_alloc | apply pw_below_drewN | apply below_drew1 | refine below_set ?_ GE146.out) | exact HB.out)) hb); clear HO150; clear BK146; clear HB; have HO150 := n0_; have HO153 := n1_; have BK146 := n2_; have HB := n3_; clear n0_ n1_ n2_ n3_; (try clear hb); (try clear hb2); (try clear hk); (try clear hi); (try clear ho0); obtain ⟨Ao10, co10, eo10⟩ := Kd.R_slice HO153.out; subst eo10; have hcz11_0 : w9.cell? ⟨gb146, 0, none⟩ = some (.string (⟨#[]⟩ : ByteArray)) := (blk_cell BK146.out 0).trans rfl; have hcz11_1 : w9.cell? ⟨gb146, 1, none⟩ = some (.slice none 0 0) := (blk_cell BK146.out 1).trans rfl; have hfz11_0 := blk_frozen BK146.out 0; have hfz11_1 := blk_frozen BK146.out 1))
  refine bodyPost_ret (results_cell_row rfl _ _ gb146 51 #[.string a0, .slice Ao10 t151.length co10] (0, 0) _ rfl (by (with_reducible repeat (first | refine blk_drewN ?_ _ | refine blk_drew ?_ | refine blk_alloc ?_ _)); refine blk_put (cs := #[.string a0, .slice none 0 0]) ?_ 1 _ rfl; (with_reducible repeat (first | refine blk_drewN ?_ _ | refine blk_drew ?_ | refine blk_alloc ?_ _)); refine blk_put (cs := #[.string (⟨#[]⟩ : ByteArray), .slice none 0 0]) ?_ 0 _ rfl; (with_reducible repeat (first | refine blk_drewN ?_ _ | refine blk_drew ?_ | refine blk_alloc ?_ _)); exact BK146.out) Tryz.underlying51 rfl (by kernel_rfl)) rfl ?_
  exact ⟨_, by first | rfl | (simp [errW_none, errW_some] <;> rfl) | (simp [*, errW_none, errW_some] <;> rfl) | (simp [bne_nil_]; done), by (with_reducible repeat (first | apply Kd.R_alloc | apply Kd.R_drewN | apply Kd.R_drew)); exact Kd.R_mono (Kd.R_far (p := ⟨gb146, 1, none⟩) (Kd.R_far (p := ⟨gb146, 0, none⟩) (Kd.R_types HO153.out BK146.out (by decide)) (fun _ hk => hk.2) (.string a0)) (fun _ hk => hk.2) (.slice Ao10 t151.length co10)) (fun _ hk => trivial), by repeat (first | (with_reducible first | exact HB.out | apply below_alloc | apply pw_below_drewN | apply below_drew1 | refine below_set ?_ GE146.out) | exact HB.out)⟩

-- LEFT OUT: function 102

-- LEFT OUT: function 78

/-! ### semantic_fetch: function 105 -/
def semantic_fetch.f (l0 : List ByteArray) (a1 : Int) (a2 : ByteArray) : Option (ByteArray) := if (l0.length : Int) ≤ a1 then (some a2) else (if 0 ≤ a1 then (if a1 < (l0.length : Int) then (some (rdOf ByteArray.empty l0 a1)) else (none)) else (none))
set_option maxHeartbeats 8000000 in
set_option maxRecDepth 100000 in
theorem semantic_fetch.calls (A0 : Option Addr) (c0 : Nat) (l0 : List ByteArray) (a1 : Int) (a2 : ByteArray) (r : ByteArray) (w : World) (hr0 : Kd.C Kd.string w A0 l0.length l0) (hc0 : l0.length ≤ c0) (h : semantic_fetch.f l0 a1 a2 = some r) :
    Calls Tryz.prog 105 #[.slice A0 l0.length c0, .int .i64 a1, .string a2] w fun e w' => e = .returned (.string r) ∧ Drawn0 w w' := by
  have HR0 := Aside0.mk hr0
  have HC0 := Aside0.mk hc0
  clear hr0 hc0
  have H : (if (l0.length : Int) ≤ a1 then (some a2) else (if 0 ≤ a1 then (if a1 < (l0.length : Int) then (some (rdOf ByteArray.empty l0 a1)) else (none)) else (none))) = some r := h
  clear h
  by_cases c4 : (l0.length : Int) ≤ a1
  · rw [if_pos c4] at H
    have c4b0 : decide ((l0.length : Int) ≤ a1) = true := decide_eq_true c4
    clear c4
    obtain rfl := Option.some.inj H
    go_enter Tryz.func105, Tryz.ntmps105
    go_wp2
    go_ret
    exact ⟨by first | rfl | (simp; done) | (simp [*]; done) | (simp [bne_nil_]; done), by repeat (first | exact Drawn0.refl _ | apply Drawn0.step)⟩
  · rw [if_neg c4] at H
    have c4b0 : decide ((l0.length : Int) ≤ a1) = false := decide_eq_false c4
    clear c4
    by_cases c5 : 0 ≤ a1
    · rw [if_pos c5] at H
      have c5b0 : decide (0 ≤ a1) = true := decide_eq_true c5
      clear c5
      by_cases c6 : a1 < (l0.length : Int)
      · rw [if_pos c6] at H
        have c6b0 : decide (a1 < (l0.length : Int)) = true := decide_eq_true c6
        clear c6
        obtain rfl := Option.some.inj H
        have p154 : 0 ≤ (a1 : Int) := of_decide_eq_true (by first | (with_reducible assumption) | assumption)
        have q154 : a1 < (l0.length : Int) := of_decide_eq_true (by first | (with_reducible assumption) | assumption)
        obtain ⟨ad154, e154, hx154_0⟩ := Kd.at_string HR0.out a1 p154 q154
        cases e154
        replace p154 := eq_true p154
        replace q154 := eq_true q154
        go_enter Tryz.func105, Tryz.ntmps105
        go_wp2
        go_ret
        exact ⟨by first | rfl | (simp; done) | (simp [*]; done) | (simp [bne_nil_]; done), by repeat (first | exact Drawn0.refl _ | apply Drawn0.step)⟩
      · rw [if_neg c6] at H
        exact absurd H (by simp)
    · rw [if_neg c5] at H
      exact absurd H (by simp)

-- GIVEN: function 90 (semantic_compareRubyGemsComponents)

/-! ### semantic_RubyGemsVersion_compare: function 51 -/
def semantic_RubyGemsVersion_compare.f (a0_0 : ByteArray) (l0_1 : List ByteArray) (a1_0 : ByteArray) (l1_1 : List ByteArray) : Option (Int) := (Giv.semantic_compareRubyGemsComponents.f l0_1 l1_1).bind fun t157 => (some t157)
set_option maxHeartbeats 8000000 in
set_option maxRecDepth 100000 in
theorem semantic_RubyGemsVersion_compare.calls (a0_0 : ByteArray) (A0_1 : Option Addr) (c0_1 : Nat) (l0_1 : List ByteArray) (a1_0 : ByteArray) (A1_1 : Option Addr) (c1_1 : Nat) (l1_1 : List ByteArray) (r : Int) (w : World) (hr0_1 : Kd.C Kd.string w A0_1 l0_1.length l0_1) (hc0_1 : l0_1.length ≤ c0_1) (hr1_1 : Kd.C Kd.string w A1_1 l1_1.length l1_1) (hc1_1 : l1_1.length ≤ c1_1) (h : semantic_RubyGemsVersion_compare.f a0_0 l0_1 a1_0 l1_1 = some r) (hL : Giv.Laid w) :
    Calls Tryz.prog 51 #[.agg #[.string a0_0, .slice A0_1 l0_1.length c0_1], .agg #[.string a1_0, .slice A1_1 l1_1.length c1_1]] w fun e w' => e = .returned (.int .i64 r) ∧ Below w.heap.size w w' := by
  have HLd := Aside0.mk hL
  clear hL
  have hu51 := Tryz.underlying51
  have HR0_1 := Aside0.mk hr0_1
  have HC0_1 := Aside0.mk hc0_1
  clear hr0_1 hc0_1
  have HR1_1 := Aside0.mk hr1_1
  have HC1_1 := Aside0.mk hc1_1
  clear hr1_1 hc1_1
  have HB := Aside0.mk (Below.refl w.heap.size w)
  have H : ((Giv.semantic_compareRubyGemsComponents.f l0_1 l1_1).bind fun t157 => (some t157)) = some r := h
  clear h
  replace H := Option.bind_eq_some_iff.mp H
  obtain ⟨t157, A30, H⟩ := H
  replace H : (some t157) = some r := H
  have A3 := Aside0.mk A30
  clear A30
  obtain rfl := Option.some.inj H
  go_enter Tryz.func51, Tryz.ntmps51
  go_wp2_with (first | ((with_reducible refine gate_dst (N := 2) rfl ?_); refine box_event ?hg (N := 2) ?hd (cs := #[.string a0_0, .slice A0_1 l0_1.length c0_1]) (t := 51) ?hr ?_; (case hd => rfl); (case hg => rfl); (case hr => first | (go_simp; done) | (go_simp; rfl)); intro gb155 hg w4 hbox hb; have n0_ := Aside0.mk (below_step (by repeat (first | (with_reducible first | exact HB.out | apply below_alloc | apply pw_below_drewN | apply below_drew1) | exact HB.out)) hb); have n1_ := Aside0.mk (hbox); have n2_ := Aside0.mk ((by rw [hg]; exact (below_size (by repeat (first | (with_reducible first | exact HB.out | apply below_alloc | apply pw_below_drewN | apply below_drew1) | exact HB.out))) : w.heap.size ≤ gb155)); have n3_ := Aside0.mk ((by rw [hg]; exact (below_size (by repeat (first | (with_reducible first | exact HB.out | apply below_alloc | apply pw_below_drewN | apply below_drew1) | exact HB.out))) : w.heap.size ≤ gb155)); clear HB; have HB := n0_; have BK155 := n1_; have GW155 := n2_; have GE155 := n3_; clear n0_ n1_ n2_ n3_; clear hb hbox hg) | ((with_reducible refine gate_dst (N := 3) rfl ?_); refine box_event ?hg (N := 3) ?hd (cs := #[.string a1_0, .slice A1_1 l1_1.length c1_1]) (t := 51) ?hr ?_; (case hd => rfl); (case hg => rfl); (case hr => first | (go_simp; done) | (go_simp; rfl)); intro gb156 hg w5 hbox hb; have n0_ := Aside0.mk (blk_below (g := gb155) (o := .cells #[.string a0_0, .slice A0_1 l0_1.length c0_1] 51 (0, 0)) (by (with_reducible repeat (first | refine blk_drewN ?_ _ | refine blk_drew ?_ | refine blk_alloc ?_ _)); exact BK155.out) hb); have n1_ := Aside0.mk (below_step (by repeat (first | (with_reducible first | exact HB.out | apply below_alloc | apply pw_below_drewN | apply below_drew1 | refine below_set ?_ GE155.out) | exact HB.out)) hb); have n2_ := Aside0.mk (hbox); have n3_ := Aside0.mk ((by rw [hg]; exact (below_size (by repeat (first | (with_reducible first | exact HB.out | apply below_alloc | apply pw_below_drewN | apply below_drew1 | refine below_set ?_ GE155.out) | exact HB.out))) : w.heap.size ≤ gb156)); have n4_ := Aside0.mk ((by rw [hg]; exact (below_size (by repeat (first | (with_reducible first | exact HB.out | apply below_alloc | apply pw_below_drewN | apply below_drew1 | refine below_set ?_ GE155.out) | exact HB.out))) : w.heap.size ≤ gb156)); have n5_ := Aside0.mk ((by rw [hg]; exact Nat.ne_of_lt (blk_lt (g := gb155) (o := .cells #[.string a0_0, .slice A0_1 l0_1.length c0_1] 51 (0, 0)) (by (with_reducible repeat (first | refine blk_drewN ?_ _ | refine blk_drew ?_ | refine blk_alloc ?_ _)); exact BK155.out)) : gb155 ≠ gb156)); have n6_ := Aside0.mk ((by rw [hg]; exact Nat.ne_of_gt (blk_lt (g := gb155) (o := .cells #[.string a0_0, .slice A0_1 l0_1.length c0_1] 51 (0, 0)) (by (with_reducible repeat (first | refine blk_drewN ?_ _ | refine blk_drew ?_ | refine blk_alloc ?_ _)); exact BK155.out)) : gb156 ≠ gb155)); clear BK155; clear HB; have BK155 := n0_; have HB := n1_; have BK156 := n2_; have GW156 := n3_; have GE156 := n4_; have NB155_156 := n5_; have NB156_155 := n6_; clear n0_ n1_ n2_ n3_ n4_ n5_ n6_; clear hb hbox hg; have hnb6 := NB155_156.out; have hnc6 := NB156_155.out; have hcz7_0 : w5.cell? ⟨gb155, 0, none⟩ = some (.string a0_0) := (blk_cell BK155.out 0).trans rfl; have hcz7_1 : w5.cell? ⟨gb155, 1, none⟩ = some (.slice A0_1 l0_1.length c0_1) := (blk_cell BK155.out 1).trans rfl; have hfz7_0 := blk_frozen BK155.out 0; have hfz7_1 := blk_frozen BK155.out 1; have hcz8_0 : w5.cell? ⟨gb156, 0, none⟩ = some (.string a1_0) := (blk_cell BK156.out 0).trans rfl; have hcz8_1 : w5.cell? ⟨gb156, 1, none⟩ = some (.slice A1_1 l1_1.length c1_1) := (blk_cell BK156.out 1).trans rfl; have hfz8_0 := blk_frozen BK156.out 0; have hfz8_1 := blk_frozen BK156.out 1) | ((with_reducible refine gate_callee (f := 90) rfl ?_); refine goesL_ (some 9) rfl rfl Tryz.func90 (by kernel_rfl) rfl #[.slice A0_1 l0_1.length c0_1, .slice A1_1 l1_1.length c1_1] rfl (by (try simp only [List.map_toArray, List.map_cons, List.map_nil]); first | done | rfl | (simp only [List.length_drop, List.length_take]; rfl)) ?_; (with_reducible refine (Giv.semantic_compareRubyGemsComponents.calls _ _ l0_1 _ _ l1_1 t157 _ ?side1 ?side2 ?side3 ?side4 A3.out (HLd.out.below (by repeat (first | (with_reducible first | exact HB.out | apply below_alloc | apply pw_below_drewN | apply below_drew1 | refine below_set ?_ GE155.out | refine below_set ?_ GE156.out) | exact HB.out)))).mono ?_); (case side1 => repeat (first | exact (Kd.C_below HR0_1.out HB.out) | (with_reducible refine Kd.C_alloc ?_ _) | (with_reducible refine Kd.C_drewN ?_ _) | (with_reducible refine Kd.C_drew ?_))); (case side2 => exact HC0_1.out); (case side3 => repeat (first | exact (Kd.C_below HR1_1.out HB.out) | (with_reducible refine Kd.C_alloc ?_ _) | (with_reducible refine Kd.C_drewN ?_ _) | (with_reducible refine Kd.C_drew ?_))); (case side4 => exact HC1_1.out); rintro e w9 ⟨rfl, hb⟩; refine ⟨_, rfl, ?_⟩; have n0_ := Aside0.mk (blk_below (g := gb155) (o := .cells #[.string a0_0, .slice A0_1 l0_1.length c0_1] 51 (0, 0)) (by (with_reducible repeat (first | refine blk_drewN ?_ _ | refine blk_drew ?_ | refine blk_alloc ?_ _)); exact BK155.out) hb); have n1_ := Aside0.mk (blk_below (g := gb156) (o := .cells #[.string a1_0, .slice A1_1 l1_1.length c1_1] 51 (0, 0)) (by (with_reducible repeat (first | refine blk_drewN ?_ _ | refine blk_drew ?_ | refine blk_alloc ?_ _)); exact BK156.out) hb); have n2_ := Aside0.mk (below_step (by repeat (first | (with_reducible first | exact HB.out | apply below_alloc | apply pw_below_drewN | apply below_drew1 | refine below_set ?_ GE155.out | refine below_set ?_ GE156.out) | exact HB.out)) hb); clear BK155; clear BK156; clear HB; have BK155 := n0_; have BK156 := n1_; have HB := n2_; clear n0_ n1_ n2_; (try clear hb); (try clear hb2); (try clear hk); (try clear hi)))
  go_ret
  exact ⟨by first | rfl | (simp [errW_none, errW_some] <;> rfl) | (simp [*, errW_none, errW_some] <;> rfl) | (simp [bne_nil_]; done), by repeat (first | (with_reducible first | exact HB.out | apply below_alloc | apply pw_below_drewN | apply below_drew1 | refine below_set ?_ GE155.out | refine below_set ?_ GE156.out) | exact HB.out)⟩

end Go.Proofs.YtnbpoplomdocjaaGreatDoor.QR
