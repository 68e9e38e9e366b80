-- Written by a working copy of the kit's print program, turned at a few places by wip/tool/mkprint.py. Lean checks it.
import Derived.Test.YtehlakaccgccbaaDoorQDx0
namespace Go.Proofs.YtehlakaccgccbaaDoor.QD
open Go.RowKit Go.Proofs.YtehlakaccgccbaaDoorW.PrintWords Go.Proofs.YtehlakaccgccbaaDoorW.PrintLast Go.Proofs.YtehlakaccgccbaaDoorW.PrintMore
attribute [local go_sem] max2_int min2_int max_two min_two max_three min_three max_four min_four   -- for this text's walks alone
set_option linter.unusedVariables false
set_option linter.unusedSimpArgs false

/-! ### semantic_zzIndex: function 23 -/
def semantic_zzIndex.l0 : Nat → ByteArray → ByteArray → Int → Option (Int)
  | 0, _, _, _ => none
  | k + 1, x0, x1, x5 => if (wrap64 (x5 + (x1.size : Int))) ≤ (x0.size : Int) then (if 0 ≤ x5 then (if x5 ≤ (wrap64 (x5 + (x1.size : Int))) then (if (x0.extract (x5 : Int).toNat ((wrap64 (x5 + (x1.size : Int))) : Int).toNat).toList = x1.toList then (some x5) else (semantic_zzIndex.l0 k x0 x1 (wrap64 (x5 + 1)))) else (none)) else (none)) else (some (-1))
def semantic_zzIndex.f (k : Nat) (a0 : ByteArray) (a1 : ByteArray) : Option (Int) := semantic_zzIndex.l0 k a0 a1 0
theorem semantic_zzIndex.mono_l : ∀ k, (∀ y0 y1 y2, LeO (semantic_zzIndex.l0 k y0 y1 y2) (semantic_zzIndex.l0 (k + 1) y0 y1 y2))
  | 0 => fun _ _ _ r h => by simp [semantic_zzIndex.l0] at h
  | k + 1 => by
    have ih0 := semantic_zzIndex.mono_l k
    · intro y0 y1 y2
      unfold semantic_zzIndex.l0
      repeat' first
      | (with_reducible exact ih0 _ _ _)
      | (with_reducible exact LeO.refl _)
      | (with_reducible exact LeO.none _)
      | (with_reducible refine LeO.ite ?_ ?_)
      | (with_reducible refine LeO.bind ?_ (fun _ => ?_))
      | exact ih0 _ _ _
      | exact LeO.none _
      | refine LeO.ite ?_ ?_
      | refine LeO.bind ?_ (fun _ => ?_)
theorem semantic_zzIndex.mono : ∀ a0 a1 k, LeO (semantic_zzIndex.f k a0 a1) (semantic_zzIndex.f (k + 1) a0 a1) := by
  intro a0 a1 k
  have ih0 := semantic_zzIndex.mono_l k
  unfold semantic_zzIndex.f
  repeat' first
      | (with_reducible exact ih0 _ _ _)
      | (with_reducible exact LeO.refl _)
      | (with_reducible exact LeO.none _)
      | (with_reducible refine LeO.ite ?_ ?_)
      | (with_reducible refine LeO.bind ?_ (fun _ => ?_))
      | exact ih0 _ _ _
      | exact LeO.none _
      | refine LeO.ite ?_ ?_
      | refine LeO.bind ?_ (fun _ => ?_)
set_option maxHeartbeats 8000000 in
set_option maxRecDepth 100000 in
theorem semantic_zzIndex.calls (k : Nat) (a0 : ByteArray) (a1 : ByteArray) (r : Int) (w : World) (h : semantic_zzIndex.f k a0 a1 = some r) :
    Calls Tryd.prog 23 #[.string a0, .string a1] w fun e w' => e = .returned (.int .i64 r) ∧ Drawn0 w w' := by
  have H : (semantic_zzIndex.l0 k a0 a1 0) = some r := h
  clear h
  have H' := Aside0.mk H
  clear H
  go_enter Tryd.func23, Tryd.ntmps23
  go_wp2
  go_loopg [5] k (fun kq v5 w' => ∃ (x5_1 : Int), v5 = .int .i64 x5_1 ∧ Aside0 (semantic_zzIndex.l0 kq a0 a1 x5_1 = some r) ∧ Aside0 (kq ≤ k) ∧ Drawn0 w w')
  case atStart => exact ⟨(0), (by first | rfl | (simp; done) | (simp [*]; done) | (simp [bne_nil_]; done)), H', ⟨Nat.le_refl _⟩, by repeat (first | exact Drawn0.refl _ | apply Drawn0.step)⟩
  case round =>
    clear H'
    try clear c2
    try clear p2
    obtain ⟨x5_1, rfl, HA, HK1, ⟨m1, rfl⟩⟩ := hrel
    cases gk with
    | zero => exact absurd HA.out (by simp [semantic_zzIndex.l0])
    | succ k1 =>
      have H := HA.out
      clear HA
      simp only [semantic_zzIndex.l0] at H
      by_cases c3 : (wrap64 (x5_1 + (a1.size : Int))) ≤ (a0.size : Int)
      · rw [if_pos c3] at H
        have c3b0 : decide ((wrap64 (x5_1 + (a1.size : Int))) ≤ (a0.size : Int)) = true := decide_eq_true c3
        clear c3
        by_cases c4 : 0 ≤ x5_1
        · rw [if_pos c4] at H
          have c4b0 := eq_true c4
          have c4b1 : decide (0 ≤ x5_1) = true := decide_eq_true c4
          clear c4
          by_cases c5 : x5_1 ≤ (wrap64 (x5_1 + (a1.size : Int)))
          · rw [if_pos c5] at H
            have c5b0 := eq_true c5
            have c5b1 : decide (x5_1 ≤ (wrap64 (x5_1 + (a1.size : Int)))) = true := decide_eq_true c5
            have c6b0 := eq_true (of_decide_eq_true (by first | (with_reducible assumption) | assumption) : (wrap64 (x5_1 + (a1.size : Int))) ≤ (a0.size : Int))
            by_cases c7 : (a0.extract (x5_1 : Int).toNat ((wrap64 (x5_1 + (a1.size : Int))) : Int).toNat).toList = a1.toList
            · rw [if_pos c7] at H
              (try (have c7bz := c7; simp only [ByteArray.size_extract, Nat.min_self] at c7bz; replace c7bz := decide_eq_true c7bz))
              have c7b0 : ((a0.extract (x5_1 : Int).toNat ((wrap64 (x5_1 + (a1.size : Int))) : Int).toNat).toList == a1.toList) = true := beq_iff_eq.mpr c7
              have c7b1 : ((a0.extract (x5_1 : Int).toNat ((wrap64 (x5_1 + (a1.size : Int))) : Int).toNat).toList != a1.toList) = false := bne_eq_false_iff_eq.mpr c7
              clear c7
              obtain rfl := Option.some.inj H
              go_wp2
              go_ret
              exact ⟨by first | rfl | (simp; done) | (simp [*]; done) | (simp [bne_nil_]; done), by repeat (first | exact Drawn0.refl _ | apply Drawn0.step)⟩
            · rw [if_neg c7] at H
              (try (have c7bz := c7; simp only [ByteArray.size_extract, Nat.min_self] at c7bz; replace c7bz := decide_eq_false c7bz))
              have c7b0 : ((a0.extract (x5_1 : Int).toNat ((wrap64 (x5_1 + (a1.size : Int))) : Int).toNat).toList == a1.toList) = false := beq_eq_false_iff_ne.mpr c7
              have c7b1 : ((a0.extract (x5_1 : Int).toNat ((wrap64 (x5_1 + (a1.size : Int))) : Int).toNat).toList != a1.toList) = true := bne_iff_ne.mpr c7
              have H' := Aside0.mk H
              clear H
              go_wp2
              go_roundg k1
              case measure => have := HK1.out; omega
              case rel => exact ⟨(wrap64 (x5_1 + 1)), (by first | rfl | (simp; done) | (simp [*]; done) | (simp [bne_nil_]; done)), H', ⟨by have := HK1.out; omega⟩, by repeat (first | exact Drawn0.refl _ | apply Drawn0.step)⟩
          · rw [if_neg c5] at H
            exact absurd H (by simp)
        · rw [if_neg c4] at H
          exact absurd H (by simp)
      · rw [if_neg c3] at H
        have c3b0 : decide ((wrap64 (x5_1 + (a1.size : Int))) ≤ (a0.size : Int)) = false := decide_eq_false c3
        clear c3
        obtain rfl := Option.some.inj H
        go_wp2
        go_ret
        exact ⟨by first | rfl | (simp; done) | (simp [*]; done) | (simp [bne_nil_]; done), by repeat (first | exact Drawn0.refl _ | apply Drawn0.step)⟩

/-! ### semantic_zzCut: function 14 -/
def semantic_zzCut.f (k : Nat) (a0 : ByteArray) (a1 : ByteArray) : Option (ByteArray × ByteArray × Bool) := (semantic_zzIndex.f k a0 a1).bind fun t101 => (if t101 ≥ 0 then (if 0 ≤ t101 then (if t101 ≤ (a0.size : Int) then (if 0 ≤ (wrap64 (t101 + (a1.size : Int))) then (if (wrap64 (t101 + (a1.size : Int))) ≤ (a0.size : Int) then (some (a0.extract 0 (t101 : Int).toNat, a0.extract ((wrap64 (t101 + (a1.size : Int))) : Int).toNat a0.size, true)) else (none)) else (none)) else (none)) else (none)) else (some (a0, (⟨#[]⟩ : ByteArray), false)))
theorem semantic_zzCut.mono : ∀ a0 a1 k, LeO (semantic_zzCut.f k a0 a1) (semantic_zzCut.f (k + 1) a0 a1) := by
  intro a0 a1 k
  unfold semantic_zzCut.f
  repeat' first
      | (with_reducible exact semantic_zzIndex.mono _ _ _)
      | (with_reducible exact LeO.refl _)
      | (with_reducible exact LeO.none _)
      | (with_reducible refine LeO.ite ?_ ?_)
      | (with_reducible refine LeO.bind ?_ (fun _ => ?_))
      | exact semantic_zzIndex.mono _ _ _
      | exact LeO.none _
      | refine LeO.ite ?_ ?_
      | refine LeO.bind ?_ (fun _ => ?_)
set_option maxHeartbeats 8000000 in
set_option maxRecDepth 100000 in
theorem semantic_zzCut.calls (k : Nat) (a0 : ByteArray) (a1 : ByteArray) (r1 : ByteArray) (r2 : ByteArray) (r3 : Bool) (w : World) (h : semantic_zzCut.f k a0 a1 = some (r1, r2, r3)) :
    Calls Tryd.prog 14 #[.string a0, .string a1] w fun e w' => e = .returned (.tuple #[.string r1, .string r2, .bool r3]) ∧ Drawn0 w w' := by
  have H : ((semantic_zzIndex.f k a0 a1).bind fun t101 => (if t101 ≥ 0 then (if 0 ≤ t101 then (if t101 ≤ (a0.size : Int) then (if 0 ≤ (wrap64 (t101 + (a1.size : Int))) then (if (wrap64 (t101 + (a1.size : Int))) ≤ (a0.size : Int) then (some (a0.extract 0 (t101 : Int).toNat, a0.extract ((wrap64 (t101 + (a1.size : Int))) : Int).toNat a0.size, true)) else (none)) else (none)) else (none)) else (none)) else (some (a0, (⟨#[]⟩ : ByteArray), false)))) = some (r1, r2, r3) := h
  clear h
  replace H := Option.bind_eq_some_iff.mp H
  obtain ⟨t101, A30, H⟩ := H
  replace H : (if t101 ≥ 0 then (if 0 ≤ t101 then (if t101 ≤ (a0.size : Int) then (if 0 ≤ (wrap64 (t101 + (a1.size : Int))) then (if (wrap64 (t101 + (a1.size : Int))) ≤ (a0.size : Int) then (some (a0.extract 0 (t101 : Int).toNat, a0.extract ((wrap64 (t101 + (a1.size : Int))) : Int).toNat a0.size, true)) else (none)) else (none)) else (none)) else (none)) else (some (a0, (⟨#[]⟩ : ByteArray), false))) = some (r1, r2, r3) := H
  have A3 := Aside0.mk A30
  clear A30
  by_cases c4 : t101 ≥ 0
  · rw [if_pos c4] at H
    have c4b0 : decide (0 ≤ t101) = true := decide_eq_true c4
    clear c4
    by_cases c5 : 0 ≤ t101
    · rw [if_pos c5] at H
      have c5b0 := eq_true c5
      have c5b1 : decide (0 ≤ t101) = true := decide_eq_true c5
      clear c5
      by_cases c6 : t101 ≤ (a0.size : Int)
      · rw [if_pos c6] at H
        have c6b0 := eq_true c6
        have c6b1 : decide (t101 ≤ (a0.size : Int)) = true := decide_eq_true c6
        clear c6
        obtain ⟨ji7, hji7⟩ : ∃ j_ : Int, (wrap64 (t101 + (a1.size : Int))) = j_ := ⟨_, rfl⟩
        replace H : (if 0 ≤ (ji7) then (if (ji7) ≤ (a0.size : Int) then (some (a0.extract 0 (t101 : Int).toNat, a0.extract ((ji7) : Int).toNat a0.size, true)) else (none)) else (none)) = some (r1, r2, r3) := by first | (rw [hji7] at H; exact H) | (simp only [hji7] at H ⊢; exact H)
        (try rw [hji7] at A3)
        have hji7w : (IntKind.i64.wrap (t101 + (a1.size : Int))) = ji7 := (i64_w _).trans hji7
        by_cases c8 : 0 ≤ (ji7)
        · rw [if_pos c8] at H
          have c8b0 := eq_true c8
          have c8b1 : decide (0 ≤ (ji7)) = true := decide_eq_true c8
          clear c8
          by_cases c9 : (ji7) ≤ (a0.size : Int)
          · rw [if_pos c9] at H
            have c9b0 := eq_true c9
            have c9b1 : decide ((ji7) ≤ (a0.size : Int)) = true := decide_eq_true c9
            clear c9
            simp only [Option.some.injEq, Prod.mk.injEq] at H
            obtain ⟨rfl, rfl, rfl⟩ := H
            go_enter Tryd.func14, Tryd.ntmps14
            go_wp2_with (first | (go_at_call 23; (with_reducible refine (semantic_zzIndex.calls k a0 a1 t101 _ A3.out).mono ?_); rintro e w' ⟨rfl, ⟨nd, rfl⟩⟩; (try first | exact ⟨rfl, _, World.drewN_drewN _ _ _⟩ | exact ⟨rfl, _, Eq.trans (World.drewN_drewN _ _ _) (congrArg (World.drewN _) (Nat.add_assoc _ _ _))⟩)))
            repeat (go_quiet (first | (go_at_call 23; (with_reducible refine (semantic_zzIndex.calls k a0 a1 t101 _ A3.out).mono ?_); rintro e w' ⟨rfl, ⟨nd, rfl⟩⟩; (try first | exact ⟨rfl, _, World.drewN_drewN _ _ _⟩ | exact ⟨rfl, _, Eq.trans (World.drewN_drewN _ _ _) (congrArg (World.drewN _) (Nat.add_assoc _ _ _))⟩))); try go_wp2_with (first | (go_at_call 23; (with_reducible refine (semantic_zzIndex.calls k a0 a1 t101 _ A3.out).mono ?_); rintro e w' ⟨rfl, ⟨nd, rfl⟩⟩; (try first | exact ⟨rfl, _, World.drewN_drewN _ _ _⟩ | exact ⟨rfl, _, Eq.trans (World.drewN_drewN _ _ _) (congrArg (World.drewN _) (Nat.add_assoc _ _ _))⟩))))
            go_ret3
            exact ⟨by first | rfl | (simp; done) | (simp only [← hji7] <;> (first | rfl | simp)) | (simp [*]; done), by repeat (first | exact Drawn0.refl _ | apply Drawn0.step)⟩
          · rw [if_neg c9] at H
            exact absurd H (by simp)
        · rw [if_neg c8] at H
          exact absurd H (by simp)
      · rw [if_neg c6] at H
        exact absurd H (by simp)
    · rw [if_neg c5] at H
      exact absurd H (by simp)
  · rw [if_neg c4] at H
    have c4b0 : decide (0 ≤ t101) = false := decide_eq_false c4
    clear c4
    simp only [Option.some.injEq, Prod.mk.injEq] at H
    obtain ⟨rfl, rfl, rfl⟩ := H
    go_enter Tryd.func14, Tryd.ntmps14
    go_wp2_with (first | (go_at_call 23; (with_reducible refine (semantic_zzIndex.calls k a0 a1 t101 _ A3.out).mono ?_); rintro e w' ⟨rfl, ⟨nd, rfl⟩⟩; (try first | exact ⟨rfl, _, World.drewN_drewN _ _ _⟩ | exact ⟨rfl, _, Eq.trans (World.drewN_drewN _ _ _) (congrArg (World.drewN _) (Nat.add_assoc _ _ _))⟩)))
    repeat (go_quiet (first | (go_at_call 23; (with_reducible refine (semantic_zzIndex.calls k a0 a1 t101 _ A3.out).mono ?_); rintro e w' ⟨rfl, ⟨nd, rfl⟩⟩; (try first | exact ⟨rfl, _, World.drewN_drewN _ _ _⟩ | exact ⟨rfl, _, Eq.trans (World.drewN_drewN _ _ _) (congrArg (World.drewN _) (Nat.add_assoc _ _ _))⟩))); try go_wp2_with (first | (go_at_call 23; (with_reducible refine (semantic_zzIndex.calls k a0 a1 t101 _ A3.out).mono ?_); rintro e w' ⟨rfl, ⟨nd, rfl⟩⟩; (try first | exact ⟨rfl, _, World.drewN_drewN _ _ _⟩ | exact ⟨rfl, _, Eq.trans (World.drewN_drewN _ _ _) (congrArg (World.drewN _) (Nat.add_assoc _ _ _))⟩))))
    go_ret3
    exact ⟨by first | rfl | (simp; done) | (simp [*]; done) | (simp [bne_nil_]; done), by repeat (first | exact Drawn0.refl _ | apply Drawn0.step)⟩

/-! ### semantic_isASCIIDigit: function 24 -/
def semantic_isASCIIDigit.f (a0 : Int) : Option (Bool) := if a0 ≥ 48 then (some (decide (a0 ≤ 57))) else (some false)
set_option maxHeartbeats 8000000 in
set_option maxRecDepth 100000 in
theorem semantic_isASCIIDigit.calls (a0 : Int) (r : Bool) (w : World) (h : semantic_isASCIIDigit.f a0 = some r) :
    Calls Tryd.prog 24 #[.int .i32 a0] w fun e w' => e = .returned (.bool r) ∧ Drawn0 w w' := by
  have H : (if a0 ≥ 48 then (some (decide (a0 ≤ 57))) else (some false)) = some r := h
  clear h
  by_cases c2 : a0 ≥ 48
  · rw [if_pos c2] at H
    have c2b0 : decide (48 ≤ a0) = true := decide_eq_true c2
    clear c2
    obtain rfl := Option.some.inj H
    go_enter Tryd.func24, Tryd.ntmps24
    go_wp2
    go_ret
    exact ⟨by first | rfl | (simp; done) | (simp [*]; done) | (simp [bne_nil_]; done), by repeat (first | exact Drawn0.refl _ | apply Drawn0.step)⟩
  · rw [if_neg c2] at H
    have c2b0 : decide (48 ≤ a0) = false := decide_eq_false c2
    clear c2
    obtain rfl := Option.some.inj H
    go_enter Tryd.func24, Tryd.ntmps24
    go_wp2
    go_ret
    exact ⟨by first | rfl | (simp; done) | (simp [*]; done) | (simp [bne_nil_]; done), by repeat (first | exact Drawn0.refl _ | apply Drawn0.step)⟩

-- GIVEN: function 15 (semantic_isOnlyDigits)

/-! ### semantic_ParseRedHatVersion: function 10 -/
mutual
def semantic_ParseRedHatVersion.j0 : Nat → ByteArray → ByteArray → ByteArray → Bool → Option (ByteArray × ByteArray × ByteArray)
  | 0, _, _, _, _ => none
  | k + 1, x0, x3, x4, x21 => if x21 = true then (semantic_ParseRedHatVersion.j1 k (⟨#[]⟩ : ByteArray) x0) else (semantic_ParseRedHatVersion.j1 k x3 x4)
def semantic_ParseRedHatVersion.j1 : Nat → ByteArray → ByteArray → Option (ByteArray × ByteArray × ByteArray)
  | 0, _, _ => none
  | k + 1, x3, x4 => (semantic_zzCut.f k x4 (⟨#[45]⟩ : ByteArray)).bind fun bt107 => (if bt107.2.2 = true then (if 1 + bt107.2.1.size ≤ 9223372036854775807 then (if x3.toList = ([] : List UInt8) then (some ((⟨#[48]⟩ : ByteArray), bt107.1, (⟨#[45]⟩ : ByteArray) ++ bt107.2.1)) else (some (x3, bt107.1, (⟨#[45]⟩ : ByteArray) ++ bt107.2.1))) else (none)) else (if x3.toList = ([] : List UInt8) then (some ((⟨#[48]⟩ : ByteArray), bt107.1, bt107.2.1)) else (some (x3, bt107.1, bt107.2.1))))
end
def semantic_ParseRedHatVersion.f (k : Nat) (a0 : ByteArray) : Option (ByteArray × ByteArray × ByteArray) := (semantic_zzCut.f k a0 (⟨#[58]⟩ : ByteArray)).bind fun bt103 => (if bt103.2.2 = true then ((Giv.semantic_isOnlyDigits.f bt103.1).bind fun t106 => (semantic_ParseRedHatVersion.j0 k a0 bt103.1 bt103.2.1 (!t106))) else (semantic_ParseRedHatVersion.j0 k a0 bt103.1 bt103.2.1 true))
theorem semantic_ParseRedHatVersion.mono_l : ∀ k, (∀ y0 y1 y2 y3, LeO (semantic_ParseRedHatVersion.j0 k y0 y1 y2 y3) (semantic_ParseRedHatVersion.j0 (k + 1) y0 y1 y2 y3)) ∧ (∀ y0 y1, LeO (semantic_ParseRedHatVersion.j1 k y0 y1) (semantic_ParseRedHatVersion.j1 (k + 1) y0 y1))
  | 0 => ⟨fun _ _ _ _ r h => by simp [semantic_ParseRedHatVersion.j0] at h, fun _ _ r h => by simp [semantic_ParseRedHatVersion.j1] at h⟩
  | k + 1 => by
    obtain ⟨ih0, ih1⟩ := semantic_ParseRedHatVersion.mono_l k
    refine ⟨?_, ?_⟩
    · intro y0 y1 y2 y3
      unfold semantic_ParseRedHatVersion.j0
      repeat' first
      | (with_reducible exact ih0 _ _ _ _)
      | (with_reducible exact ih1 _ _)
      | (with_reducible exact semantic_zzCut.mono _ _ _)
      | (with_reducible exact LeO.refl _)
      | (with_reducible exact LeO.none _)
      | (with_reducible refine LeO.ite ?_ ?_)
      | (with_reducible refine LeO.bind ?_ (fun _ => ?_))
      | exact ih0 _ _ _ _
      | exact ih1 _ _
      | exact semantic_zzCut.mono _ _ _
      | exact LeO.none _
      | refine LeO.ite ?_ ?_
      | refine LeO.bind ?_ (fun _ => ?_)
    · intro y0 y1
      unfold semantic_ParseRedHatVersion.j1
      repeat' first
      | (with_reducible exact ih0 _ _ _ _)
      | (with_reducible exact ih1 _ _)
      | (with_reducible exact semantic_zzCut.mono _ _ _)
      | (with_reducible exact LeO.refl _)
      | (with_reducible exact LeO.none _)
      | (with_reducible refine LeO.ite ?_ ?_)
      | (with_reducible refine LeO.bind ?_ (fun _ => ?_))
      | exact ih0 _ _ _ _
      | exact ih1 _ _
      | exact semantic_zzCut.mono _ _ _
      | exact LeO.none _
      | refine LeO.ite ?_ ?_
      | refine LeO.bind ?_ (fun _ => ?_)
theorem semantic_ParseRedHatVersion.mono : ∀ a0 k, LeO (semantic_ParseRedHatVersion.f k a0) (semantic_ParseRedHatVersion.f (k + 1) a0) := by
  intro a0 k
  obtain ⟨ih0, ih1⟩ := semantic_ParseRedHatVersion.mono_l k
  unfold semantic_ParseRedHatVersion.f
  repeat' first
      | (with_reducible exact ih0 _ _ _ _)
      | (with_reducible exact ih1 _ _)
      | (with_reducible exact semantic_zzCut.mono _ _ _)
      | (with_reducible exact LeO.refl _)
      | (with_reducible exact LeO.none _)
      | (with_reducible refine LeO.ite ?_ ?_)
      | (with_reducible refine LeO.bind ?_ (fun _ => ?_))
      | exact ih0 _ _ _ _
      | exact ih1 _ _
      | exact semantic_zzCut.mono _ _ _
      | exact LeO.none _
      | refine LeO.ite ?_ ?_
      | refine LeO.bind ?_ (fun _ => ?_)
set_option maxHeartbeats 8000000 in
set_option maxRecDepth 100000 in
theorem semantic_ParseRedHatVersion.calls (k : Nat) (a0 : ByteArray) (r1 : ByteArray) (r2 : ByteArray) (r3 : ByteArray) (w : World) (h : semantic_ParseRedHatVersion.f k a0 = some (r1, r2, r3)) :
    Calls Tryd.prog 10 #[.string a0] w fun e w' => e = .returned (.agg #[.string r1, .string r2, .string r3]) ∧ Below w.heap.size w w' := by
  have hu33 := Tryd.underlying33
  have HB := Aside0.mk (Below.refl w.heap.size w)
  have H : ((semantic_zzCut.f k a0 (⟨#[58]⟩ : ByteArray)).bind fun bt103 => (if bt103.2.2 = true then ((Giv.semantic_isOnlyDigits.f bt103.1).bind fun t106 => (semantic_ParseRedHatVersion.j0 k a0 bt103.1 bt103.2.1 (!t106))) else (semantic_ParseRedHatVersion.j0 k a0 bt103.1 bt103.2.1 true))) = some (r1, r2, r3) := h
  clear h
  replace H := Option.bind_eq_some_iff.mp H
  obtain ⟨⟨t103, t104, t105⟩, A20, H⟩ := H
  replace H : (if t105 = true then ((Giv.semantic_isOnlyDigits.f t103).bind fun t106 => (semantic_ParseRedHatVersion.j0 k a0 t103 t104 (!t106))) else (semantic_ParseRedHatVersion.j0 k a0 t103 t104 true)) = some (r1, r2, r3) := H
  have A2 := Aside0.mk A20
  clear A20
  have HC3 := Aside0.mk H
  clear H
  go_enter Tryd.func10, Tryd.ntmps10
  go_upto_region 2 with (first | ((with_reducible refine gate_dst (N := 2) rfl ?_); refine box_event ?hg (N := 2) ?hd (cs := #[.string (⟨#[]⟩ : ByteArray), .string (⟨#[]⟩ : ByteArray), .string (⟨#[]⟩ : ByteArray)]) (t := 33) ?hr ?_; (case hd => rfl); (case hg => rfl); (case hr => first | (go_simp; done) | (go_simp; rfl)); intro gb102 hg w4 hbox hb; have n0_ := Aside0.mk (below_step (by repeat (first | (with_reducible first | exact HB.out | apply below_alloc | apply pw_below_drewN | apply below_drew1) | exact HB.out)) hb); have n1_ := Aside0.mk (hbox); have n2_ := Aside0.mk ((by rw [hg]; exact (below_size (by repeat (first | (with_reducible first | exact HB.out | apply below_alloc | apply pw_below_drewN | apply below_drew1) | exact HB.out))) : w.heap.size ≤ gb102)); have n3_ := Aside0.mk ((by rw [hg]; exact (below_size (by repeat (first | (with_reducible first | exact HB.out | apply below_alloc | apply pw_below_drewN | apply below_drew1) | exact HB.out))) : w.heap.size ≤ gb102)); clear HB; have HB := n0_; have BK102 := n1_; have GW102 := n2_; have GE102 := n3_; clear n0_ n1_ n2_ n3_; clear hb hbox hg) | ((with_reducible refine gate_callee (f := 14) rfl ?_); refine goesL_ (some 11) rfl rfl Tryd.func14 (by kernel_rfl) rfl #[.string a0, .string (⟨#[58]⟩ : ByteArray)] rfl (by (try simp only [List.map_toArray, List.map_cons, List.map_nil]); first | done | rfl | (simp only [List.length_drop, List.length_take]; rfl)) ?_; (with_reducible refine (semantic_zzCut.calls k a0 (⟨#[58]⟩ : ByteArray) t103 t104 t105 _ A2.out).mono ?_); rintro e w' ⟨rfl, ⟨nd, rfl⟩⟩; refine ⟨_, rfl, ?_⟩))
  (try simp only [Act.put, List.setIfInBounds_toArray, List.set_cons_zero, List.set_cons_succ])
  go_cut [21] (fun v21 wc => ∃ (kq : Nat) (x21_2 : Bool), v21 = .bool x21_2 ∧ Aside0 (semantic_ParseRedHatVersion.j0 kq a0 t103 t104 x21_2 = some (r1, r2, r3)) ∧ Aside0 (kq ≤ k) ∧ Aside0 (wc.heap[gb102]? = some (.cells #[.string (⟨#[]⟩ : ByteArray), .string (⟨#[]⟩ : ByteArray), .string (⟨#[]⟩ : ByteArray)] 33 (0, 0))) ∧ Aside0 (Below w.heap.size w wc))
  case first =>
    have H := HC3.out
    clear HC3
    by_cases c5 : t105 = true
    · subst c5
      have H1 : ((Giv.semantic_isOnlyDigits.f t103).bind fun t106 => (semantic_ParseRedHatVersion.j0 k a0 t103 t104 (!t106))) = some (r1, r2, r3) := by rw [if_pos rfl] at H; exact H
      clear H
      have H := H1
      clear H1
      replace H := Option.bind_eq_some_iff.mp H
      obtain ⟨t106, A60, H⟩ := H
      replace H : (semantic_ParseRedHatVersion.j0 k a0 t103 t104 (!t106)) = some (r1, r2, r3) := H
      have A6 := Aside0.mk A60
      clear A60
      have H' := Aside0.mk H
      clear H
      go_wp2_with (first | (go_at_call 15; (with_reducible refine (Giv.semantic_isOnlyDigits.calls t103 t106 _ A6.out).mono ?_); rintro e w7 ⟨rfl, hb⟩; have n0_ := Aside0.mk (blk_below (g := gb102) (o := .cells #[.string (⟨#[]⟩ : ByteArray), .string (⟨#[]⟩ : ByteArray), .string (⟨#[]⟩ : ByteArray)] 33 (0, 0)) (by (with_reducible repeat (first | refine blk_drewN ?_ _ | refine blk_drew ?_ | refine blk_alloc ?_ _)); exact BK102.out) hb); have n1_ := Aside0.mk (below_step (by repeat (first | (with_reducible first | exact HB.out | apply below_alloc | apply pw_below_drewN | apply below_drew1 | refine below_set ?_ GE102.out) | exact HB.out)) hb); clear BK102; clear HB; have BK102 := n0_; have HB := n1_; clear n0_ n1_; (try clear hb); (try clear hb2); (try clear hk); (try clear hi)))
      go_meet
      case rel => exact ⟨_, (!t106), (by first | rfl | (simp; done) | (simp [*]; done) | (simp [bne_nil_]; done)), H', ⟨by first | omega | exact Nat.le_refl _⟩, ⟨by (with_reducible repeat (first | refine blk_drewN ?_ _ | refine blk_drew ?_ | refine blk_alloc ?_ _)); exact BK102.out⟩, ⟨by repeat (first | (with_reducible first | exact HB.out | apply below_alloc | apply pw_below_drewN | apply below_drew1 | refine below_set ?_ GE102.out) | exact HB.out)⟩⟩
    · replace c5 := Bool.eq_false_iff.mpr c5
      subst c5
      have H1 : (semantic_ParseRedHatVersion.j0 k a0 t103 t104 true) = some (r1, r2, r3) := by rw [if_neg (show ¬ (false = true) by decide)] at H; exact H
      clear H
      have H := H1
      clear H1
      have H' := Aside0.mk H
      clear H
      go_wp2
      go_meet
      case rel => exact ⟨_, (true), (by first | rfl | (simp; done) | (simp [*]; done) | (simp [bne_nil_]; done)), H', ⟨by first | omega | exact Nat.le_refl _⟩, ⟨by (with_reducible repeat (first | refine blk_drewN ?_ _ | refine blk_drew ?_ | refine blk_alloc ?_ _)); exact BK102.out⟩, ⟨by repeat (first | (with_reducible first | exact HB.out | apply below_alloc | apply pw_below_drewN | apply below_drew1 | refine below_set ?_ GE102.out) | exact HB.out)⟩⟩
  case rest =>
    clear HC3
    try clear c1
    try clear p2
    try clear c5
    obtain ⟨kq, x21_2, rfl, HA, HJ2, BK102, HB⟩ := hcut
    cases kq with
    | zero => exact absurd HA.out (by simp [semantic_ParseRedHatVersion.j0])
    | succ kj2 =>
      have H := HA.out
      clear HA
      simp only [semantic_ParseRedHatVersion.j0] at H
      have HC8 := Aside0.mk H
      clear H
      go_upto_if 21 with (fail)
      go_cut [3, 4] (fun v3 v4 wc => ∃ (kq : Nat) (x3_7 : ByteArray) (x4_7 : ByteArray), v3 = .string x3_7 ∧ v4 = .string x4_7 ∧ Aside0 (semantic_ParseRedHatVersion.j1 kq x3_7 x4_7 = some (r1, r2, r3)) ∧ Aside0 (kq ≤ kj2) ∧ Aside0 (wc.heap[gb102]? = some (.cells #[.string (⟨#[]⟩ : ByteArray), .string (⟨#[]⟩ : ByteArray), .string (⟨#[]⟩ : ByteArray)] 33 (0, 0))) ∧ Aside0 (Below w.heap.size w wc))
      case first =>
        have H := HC8.out
        clear HC8
        by_cases c9 : x21_2 = true
        · subst c9
          have H1 : (semantic_ParseRedHatVersion.j1 kj2 (⟨#[]⟩ : ByteArray) a0) = some (r1, r2, r3) := by rw [if_pos rfl] at H; exact H
          clear H
          have H := H1
          clear H1
          have H' := Aside0.mk H
          clear H
          go_wp2
          go_meet
          case rel => exact ⟨_, ((⟨#[]⟩ : ByteArray)), (a0), (by first | rfl | (simp; done) | (simp [*]; done) | (simp [bne_nil_]; done)), (by first | rfl | (simp; done) | (simp [*]; done) | (simp [bne_nil_]; done)), H', ⟨by have := HJ2.out; first | omega | exact Nat.le_refl _⟩, ⟨by (with_reducible repeat (first | refine blk_drewN ?_ _ | refine blk_drew ?_ | refine blk_alloc ?_ _)); exact BK102.out⟩, ⟨by repeat (first | (with_reducible first | exact HB.out | apply below_alloc | apply pw_below_drewN | apply below_drew1 | refine below_set ?_ GE102.out) | exact HB.out)⟩⟩
        · replace c9 := Bool.eq_false_iff.mpr c9
          subst c9
          have H1 : (semantic_ParseRedHatVersion.j1 kj2 t103 t104) = some (r1, r2, r3) := by rw [if_neg (show ¬ (false = true) by decide)] at H; exact H
          clear H
          have H := H1
          clear H1
          have H' := Aside0.mk H
          clear H
          go_wp2
          go_meet
          case rel => exact ⟨_, (t103), (t104), (by first | rfl | (simp; done) | (simp [*]; done) | (simp [bne_nil_]; done)), (by first | rfl | (simp; done) | (simp [*]; done) | (simp [bne_nil_]; done)), H', ⟨by have := HJ2.out; first | omega | exact Nat.le_refl _⟩, ⟨by (with_reducible repeat (first | refine blk_drewN ?_ _ | refine blk_drew ?_ | refine blk_alloc ?_ _)); exact BK102.out⟩, ⟨by repeat (first | (with_reducible first | exact HB.out | apply below_alloc | apply pw_below_drewN | apply below_drew1 | refine below_set ?_ GE102.out) | exact HB.out)⟩⟩
      case rest =>
        clear HC8
        try clear c1
        try clear p2
        try clear c5
        try clear c9
        try clear p2
        obtain ⟨kq, x3_7, x4_7, rfl, rfl, HA, HJ7, BK102, HB⟩ := hcut
        cases kq with
        | zero => exact absurd HA.out (by simp [semantic_ParseRedHatVersion.j1])
        | succ kj7 =>
          have H := HA.out
          clear HA
          simp only [semantic_ParseRedHatVersion.j1] at H
          replace H := Option.bind_eq_some_iff.mp H
          obtain ⟨⟨t107, t108, t109⟩, A100, H⟩ := H
          replace H : (if t109 = true then (if 1 + t108.size ≤ 9223372036854775807 then (if x3_7.toList = ([] : List UInt8) then (some ((⟨#[48]⟩ : ByteArray), t107, (⟨#[45]⟩ : ByteArray) ++ t108)) else (some (x3_7, t107, (⟨#[45]⟩ : ByteArray) ++ t108))) else (none)) else (if x3_7.toList = ([] : List UInt8) then (some ((⟨#[48]⟩ : ByteArray), t107, t108)) else (some (x3_7, t107, t108)))) = some (r1, r2, r3) := H
          have A10 := Aside0.mk A100
          clear A100
          by_cases c11 : t109 = true
          · subst c11
            have H1 : (if 1 + t108.size ≤ 9223372036854775807 then (if x3_7.toList = ([] : List UInt8) then (some ((⟨#[48]⟩ : ByteArray), t107, (⟨#[45]⟩ : ByteArray) ++ t108)) else (some (x3_7, t107, (⟨#[45]⟩ : ByteArray) ++ t108))) else (none)) = some (r1, r2, r3) := by rw [if_pos rfl] at H; exact H
            clear H
            have H := H1
            clear H1
            by_cases c12 : 1 + t108.size ≤ 9223372036854775807
            · rw [if_pos c12] at H
              have c12b0 := eq_true c12
              have c12b1 : decide (1 + t108.size ≤ 9223372036854775807) = true := decide_eq_true c12
              try have c12b2 : (9223372036854775807 < 1 + t108.size) = False := eq_false (Nat.not_lt.2 c12)
              by_cases c13 : x3_7.toList = ([] : List UInt8)
              · rw [if_pos c13] at H
                have c13b0 : (x3_7.toList == ([] : List UInt8)) = true := beq_iff_eq.mpr c13
                have c13b1 : (x3_7.toList != ([] : List UInt8)) = false := bne_eq_false_iff_eq.mpr c13
                clear c13
                simp only [Option.some.injEq, Prod.mk.injEq] at H
                obtain ⟨rfl, rfl, rfl⟩ := H
                go_wp2_with (first | ((with_reducible refine gate_callee (f := 14) rfl ?_); refine goesL_ (some 25) rfl rfl Tryd.func14 (by kernel_rfl) rfl #[.string x4_7, .string (⟨#[45]⟩ : ByteArray)] rfl (by (try simp only [List.map_toArray, List.map_cons, List.map_nil]); first | done | rfl | (simp only [List.length_drop, List.length_take]; rfl)) ?_; (with_reducible refine (semantic_zzCut.calls kj7 x4_7 (⟨#[45]⟩ : ByteArray) t107 t108 true _ A10.out).mono ?_); rintro e w' ⟨rfl, ⟨nd, rfl⟩⟩; refine ⟨_, rfl, ?_⟩; (try (rw [drewN_self wc]; generalize hq_ : World.drewN wc _ = wc; have n0_ : Aside0 (wc.heap[gb102]? = some (.cells #[.string (⟨#[]⟩ : ByteArray), .string (⟨#[]⟩ : ByteArray), .string (⟨#[]⟩ : ByteArray)] 33 (0, 0))) := ⟨by rw [← hq_]; exact (by (with_reducible repeat (first | refine blk_drewN ?_ _ | refine blk_drew ?_ | refine blk_alloc ?_ _)); exact BK102.out)⟩; have n1_ : Aside0 (Below w.heap.size w wc) := ⟨by rw [← hq_]; exact (by repeat (first | (with_reducible first | exact HB.out | apply below_alloc | apply pw_below_drewN | apply below_drew1 | refine below_set ?_ GE102.out) | exact HB.out))⟩; clear BK102 HB hq_; have BK102 := n0_; have HB := n1_; clear n0_ n1_)); have hcz14_0 : wc.cell? ⟨gb102, 0, none⟩ = some (.string (⟨#[]⟩ : ByteArray)) := (blk_cell BK102.out 0).trans rfl; have hcz14_1 : wc.cell? ⟨gb102, 1, none⟩ = some (.string (⟨#[]⟩ : ByteArray)) := (blk_cell BK102.out 1).trans rfl; have hcz14_2 : wc.cell? ⟨gb102, 2, none⟩ = some (.string (⟨#[]⟩ : ByteArray)) := (blk_cell BK102.out 2).trans rfl; have hfz14_0 := blk_frozen BK102.out 0; have hfz14_1 := blk_frozen BK102.out 1; have hfz14_2 := blk_frozen BK102.out 2))
                refine bodyPost_ret (results_cell_row rfl _ _ gb102 33 #[.string (⟨#[48]⟩ : ByteArray), .string t107, .string ((⟨#[45]⟩ : ByteArray) ++ t108)] (0, 0) _ rfl (by (with_reducible repeat (first | refine blk_drewN ?_ _ | refine blk_drew ?_ | refine blk_alloc ?_ _)); refine blk_put (cs := #[.string (⟨#[48]⟩ : ByteArray), .string t107, .string (⟨#[]⟩ : ByteArray)]) ?_ 2 _ rfl; (with_reducible repeat (first | refine blk_drewN ?_ _ | refine blk_drew ?_ | refine blk_alloc ?_ _)); refine blk_put (cs := #[.string (⟨#[48]⟩ : ByteArray), .string (⟨#[]⟩ : ByteArray), .string (⟨#[]⟩ : ByteArray)]) ?_ 1 _ rfl; (with_reducible repeat (first | refine blk_drewN ?_ _ | refine blk_drew ?_ | refine blk_alloc ?_ _)); refine blk_put (cs := #[.string (⟨#[]⟩ : ByteArray), .string (⟨#[]⟩ : ByteArray), .string (⟨#[]⟩ : ByteArray)]) ?_ 0 _ rfl; (with_reducible repeat (first | refine blk_drewN ?_ _ | refine blk_drew ?_ | refine blk_alloc ?_ _)); exact BK102.out) Tryd.underlying33 rfl (by kernel_rfl)) rfl ?_
                exact ⟨by first | rfl | (simp [errW_none, errW_some] <;> rfl) | (simp [*, errW_none, errW_some] <;> rfl) | (simp [bne_nil_]; done), by repeat (first | (with_reducible first | exact HB.out | apply below_alloc | apply pw_below_drewN | apply below_drew1 | refine below_set ?_ GE102.out) | exact HB.out)⟩
              · rw [if_neg c13] at H
                have c13b0 : (x3_7.toList == ([] : List UInt8)) = false := beq_eq_false_iff_ne.mpr c13
                have c13b1 : (x3_7.toList != ([] : List UInt8)) = true := bne_iff_ne.mpr c13
                simp only [Option.some.injEq, Prod.mk.injEq] at H
                obtain ⟨rfl, rfl, rfl⟩ := H
                go_wp2_with (first | ((with_reducible refine gate_callee (f := 14) rfl ?_); refine goesL_ (some 25) rfl rfl Tryd.func14 (by kernel_rfl) rfl #[.string x4_7, .string (⟨#[45]⟩ : ByteArray)] rfl (by (try simp only [List.map_toArray, List.map_cons, List.map_nil]); first | done | rfl | (simp only [List.length_drop, List.length_take]; rfl)) ?_; (with_reducible refine (semantic_zzCut.calls kj7 x4_7 (⟨#[45]⟩ : ByteArray) t107 t108 true _ A10.out).mono ?_); rintro e w' ⟨rfl, ⟨nd, rfl⟩⟩; refine ⟨_, rfl, ?_⟩; (try (rw [drewN_self wc]; generalize hq_ : World.drewN wc _ = wc; have n0_ : Aside0 (wc.heap[gb102]? = some (.cells #[.string (⟨#[]⟩ : ByteArray), .string (⟨#[]⟩ : ByteArray), .string (⟨#[]⟩ : ByteArray)] 33 (0, 0))) := ⟨by rw [← hq_]; exact (by (with_reducible repeat (first | refine blk_drewN ?_ _ | refine blk_drew ?_ | refine blk_alloc ?_ _)); exact BK102.out)⟩; have n1_ : Aside0 (Below w.heap.size w wc) := ⟨by rw [← hq_]; exact (by repeat (first | (with_reducible first | exact HB.out | apply below_alloc | apply pw_below_drewN | apply below_drew1 | refine below_set ?_ GE102.out) | exact HB.out))⟩; clear BK102 HB hq_; have BK102 := n0_; have HB := n1_; clear n0_ n1_)); have hcz15_0 : wc.cell? ⟨gb102, 0, none⟩ = some (.string (⟨#[]⟩ : ByteArray)) := (blk_cell BK102.out 0).trans rfl; have hcz15_1 : wc.cell? ⟨gb102, 1, none⟩ = some (.string (⟨#[]⟩ : ByteArray)) := (blk_cell BK102.out 1).trans rfl; have hcz15_2 : wc.cell? ⟨gb102, 2, none⟩ = some (.string (⟨#[]⟩ : ByteArray)) := (blk_cell BK102.out 2).trans rfl; have hfz15_0 := blk_frozen BK102.out 0; have hfz15_1 := blk_frozen BK102.out 1; have hfz15_2 := blk_frozen BK102.out 2))
                refine bodyPost_ret (results_cell_row rfl _ _ gb102 33 #[.string x3_7, .string t107, .string ((⟨#[45]⟩ : ByteArray) ++ t108)] (0, 0) _ rfl (by (with_reducible repeat (first | refine blk_drewN ?_ _ | refine blk_drew ?_ | refine blk_alloc ?_ _)); refine blk_put (cs := #[.string x3_7, .string t107, .string (⟨#[]⟩ : ByteArray)]) ?_ 2 _ rfl; (with_reducible repeat (first | refine blk_drewN ?_ _ | refine blk_drew ?_ | refine blk_alloc ?_ _)); refine blk_put (cs := #[.string x3_7, .string (⟨#[]⟩ : ByteArray), .string (⟨#[]⟩ : ByteArray)]) ?_ 1 _ rfl; (with_reducible repeat (first | refine blk_drewN ?_ _ | refine blk_drew ?_ | refine blk_alloc ?_ _)); refine blk_put (cs := #[.string (⟨#[]⟩ : ByteArray), .string (⟨#[]⟩ : ByteArray), .string (⟨#[]⟩ : ByteArray)]) ?_ 0 _ rfl; (with_reducible repeat (first | refine blk_drewN ?_ _ | refine blk_drew ?_ | refine blk_alloc ?_ _)); exact BK102.out) Tryd.underlying33 rfl (by kernel_rfl)) rfl ?_
                exact ⟨by first | rfl | (simp [errW_none, errW_some] <;> rfl) | (simp [*, errW_none, errW_some] <;> rfl) | (simp [bne_nil_]; done), by repeat (first | (with_reducible first | exact HB.out | apply below_alloc | apply pw_below_drewN | apply below_drew1 | refine below_set ?_ GE102.out) | exact HB.out)⟩
            · rw [if_neg c12] at H
              exact absurd H (by simp)
          · replace c11 := Bool.eq_false_iff.mpr c11
            subst c11
            have H1 : (if x3_7.toList = ([] : List UInt8) then (some ((⟨#[48]⟩ : ByteArray), t107, t108)) else (some (x3_7, t107, t108))) = some (r1, r2, r3) := by rw [if_neg (show ¬ (false = true) by decide)] at H; exact H
            clear H
            have H := H1
            clear H1
            by_cases c16 : x3_7.toList = ([] : List UInt8)
            · rw [if_pos c16] at H
              have c16b0 : (x3_7.toList == ([] : List UInt8)) = true := beq_iff_eq.mpr c16
              have c16b1 : (x3_7.toList != ([] : List UInt8)) = false := bne_eq_false_iff_eq.mpr c16
              clear c16
              simp only [Option.some.injEq, Prod.mk.injEq] at H
              obtain ⟨rfl, rfl, rfl⟩ := H
              go_wp2_with (first | ((with_reducible refine gate_callee (f := 14) rfl ?_); refine goesL_ (some 25) rfl rfl Tryd.func14 (by kernel_rfl) rfl #[.string x4_7, .string (⟨#[45]⟩ : ByteArray)] rfl (by (try simp only [List.map_toArray, List.map_cons, List.map_nil]); first | done | rfl | (simp only [List.length_drop, List.length_take]; rfl)) ?_; (with_reducible refine (semantic_zzCut.calls kj7 x4_7 (⟨#[45]⟩ : ByteArray) t107 t108 false _ A10.out).mono ?_); rintro e w' ⟨rfl, ⟨nd, rfl⟩⟩; refine ⟨_, rfl, ?_⟩; (try (rw [drewN_self wc]; generalize hq_ : World.drewN wc _ = wc; have n0_ : Aside0 (wc.heap[gb102]? = some (.cells #[.string (⟨#[]⟩ : ByteArray), .string (⟨#[]⟩ : ByteArray), .string (⟨#[]⟩ : ByteArray)] 33 (0, 0))) := ⟨by rw [← hq_]; exact (by (with_reducible repeat (first | refine blk_drewN ?_ _ | refine blk_drew ?_ | refine blk_alloc ?_ _)); exact BK102.out)⟩; have n1_ : Aside0 (Below w.heap.size w wc) := ⟨by rw [← hq_]; exact (by repeat (first | (with_reducible first | exact HB.out | apply below_alloc | apply pw_below_drewN | apply below_drew1 | refine below_set ?_ GE102.out) | exact HB.out))⟩; clear BK102 HB hq_; have BK102 := n0_; have HB := n1_; clear n0_ n1_)); have hcz17_0 : wc.cell? ⟨gb102, 0, none⟩ = some (.string (⟨#[]⟩ : ByteArray)) := (blk_cell BK102.out 0).trans rfl; have hcz17_1 : wc.cell? ⟨gb102, 1, none⟩ = some (.string (⟨#[]⟩ : ByteArray)) := (blk_cell BK102.out 1).trans rfl; have hcz17_2 : wc.cell? ⟨gb102, 2, none⟩ = some (.string (⟨#[]⟩ : ByteArray)) := (blk_cell BK102.out 2).trans rfl; have hfz17_0 := blk_frozen BK102.out 0; have hfz17_1 := blk_frozen BK102.out 1; have hfz17_2 := blk_frozen BK102.out 2))
              refine bodyPost_ret (results_cell_row rfl _ _ gb102 33 #[.string (⟨#[48]⟩ : ByteArray), .string t107, .string t108] (0, 0) _ rfl (by (with_reducible repeat (first | refine blk_drewN ?_ _ | refine blk_drew ?_ | refine blk_alloc ?_ _)); refine blk_put (cs := #[.string (⟨#[48]⟩ : ByteArray), .string t107, .string (⟨#[]⟩ : ByteArray)]) ?_ 2 _ rfl; (with_reducible repeat (first | refine blk_drewN ?_ _ | refine blk_drew ?_ | refine blk_alloc ?_ _)); refine blk_put (cs := #[.string (⟨#[48]⟩ : ByteArray), .string (⟨#[]⟩ : ByteArray), .string (⟨#[]⟩ : ByteArray)]) ?_ 1 _ rfl; (with_reducible repeat (first | refine blk_drewN ?_ _ | refine blk_drew ?_ | refine blk_alloc ?_ _)); refine blk_put (cs := #[.string (⟨#[]⟩ : ByteArray), .string (⟨#[]⟩ : ByteArray), .string (⟨#[]⟩ : ByteArray)]) ?_ 0 _ rfl; (with_reducible repeat (first | refine blk_drewN ?_ _ | refine blk_drew ?_ | refine blk_alloc ?_ _)); exact BK102.out) Tryd.underlying33 rfl (by kernel_rfl)) rfl ?_
              exact ⟨by first | rfl | (simp [errW_none, errW_some] <;> rfl) | (simp [*, errW_none, errW_some] <;> rfl) | (simp [bne_nil_]; done), by repeat (first | (with_reducible first | exact HB.out | apply below_alloc | apply pw_below_drewN | apply below_drew1 | refine below_set ?_ GE102.out) | exact HB.out)⟩
            · rw [if_neg c16] at H
              have c16b0 : (x3_7.toList == ([] : List UInt8)) = false := beq_eq_false_iff_ne.mpr c16
              have c16b1 : (x3_7.toList != ([] : List UInt8)) = true := bne_iff_ne.mpr c16
              simp only [Option.some.injEq, Prod.mk.injEq] at H
              obtain ⟨rfl, rfl, rfl⟩ := H
              go_wp2_with (first | ((with_reducible refine gate_callee (f := 14) rfl ?_); refine goesL_ (some 25) rfl rfl Tryd.func14 (by kernel_rfl) rfl #[.string x4_7, .string (⟨#[45]⟩ : ByteArray)] rfl (by (try simp only [List.map_toArray, List.map_cons, List.map_nil]); first | done | rfl | (simp only [List.length_drop, List.length_take]; rfl)) ?_; (with_reducible refine (semantic_zzCut.calls kj7 x4_7 (⟨#[45]⟩ : ByteArray) t107 t108 false _ A10.out).mono ?_); rintro e w' ⟨rfl, ⟨nd, rfl⟩⟩; refine ⟨_, rfl, ?_⟩; (try (rw [drewN_self wc]; generalize hq_ : World.drewN wc _ = wc; have n0_ : Aside0 (wc.heap[gb102]? = some (.cells #[.string (⟨#[]⟩ : ByteArray), .string (⟨#[]⟩ : ByteArray), .string (⟨#[]⟩ : ByteArray)] 33 (0, 0))) := ⟨by rw [← hq_]; exact (by (with_reducible repeat (first | refine blk_drewN ?_ _ | refine blk_drew ?_ | refine blk_alloc ?_ _)); exact BK102.out)⟩; have n1_ : Aside0 (Below w.heap.size w wc) := ⟨by rw [← hq_]; exact (by repeat (first | (with_reducible first | exact HB.out | apply below_alloc | apply pw_below_drewN | apply below_drew1 | refine below_set ?_ GE102.out) | exact HB.out))⟩; clear BK102 HB hq_; have BK102 := n0_; have HB := n1_; clear n0_ n1_)); have hcz18_0 : wc.cell? ⟨gb102, 0, none⟩ = some (.string (⟨#[]⟩ : ByteArray)) := (blk_cell BK102.out 0).trans rfl; have hcz18_1 : wc.cell? ⟨gb102, 1, none⟩ = some (.string (⟨#[]⟩ : ByteArray)) := (blk_cell BK102.out 1).trans rfl; have hcz18_2 : wc.cell? ⟨gb102, 2, none⟩ = some (.string (⟨#[]⟩ : ByteArray)) := (blk_cell BK102.out 2).trans rfl; have hfz18_0 := blk_frozen BK102.out 0; have hfz18_1 := blk_frozen BK102.out 1; have hfz18_2 := blk_frozen BK102.out 2))
              refine bodyPost_ret (results_cell_row rfl _ _ gb102 33 #[.string x3_7, .string t107, .string t108] (0, 0) _ rfl (by (with_reducible repeat (first | refine blk_drewN ?_ _ | refine blk_drew ?_ | refine blk_alloc ?_ _)); refine blk_put (cs := #[.string x3_7, .string t107, .string (⟨#[]⟩ : ByteArray)]) ?_ 2 _ rfl; (with_reducible repeat (first | refine blk_drewN ?_ _ | refine blk_drew ?_ | refine blk_alloc ?_ _)); refine blk_put (cs := #[.string x3_7, .string (⟨#[]⟩ : ByteArray), .string (⟨#[]⟩ : ByteArray)]) ?_ 1 _ rfl; (with_reducible repeat (first | refine blk_drewN ?_ _ | refine blk_drew ?_ | refine blk_alloc ?_ _)); refine blk_put (cs := #[.string (⟨#[]⟩ : ByteArray), .string (⟨#[]⟩ : ByteArray), .string (⟨#[]⟩ : ByteArray)]) ?_ 0 _ rfl; (with_reducible repeat (first | refine blk_drewN ?_ _ | refine blk_drew ?_ | refine blk_alloc ?_ _)); exact BK102.out) Tryd.underlying33 rfl (by kernel_rfl)) rfl ?_
              exact ⟨by first | rfl | (simp [errW_none, errW_some] <;> rfl) | (simp [*, errW_none, errW_some] <;> rfl) | (simp [bne_nil_]; done), by repeat (first | (with_reducible first | exact HB.out | apply below_alloc | apply pw_below_drewN | apply below_drew1 | refine below_set ?_ GE102.out) | exact HB.out)⟩

/-! ### semantic_isASCIILetter: function 32 -/
def semantic_isASCIILetter.f (a0 : Int) : Option (Bool) := if a0 ≥ 65 then (if a0 ≤ 90 then (some true) else (if a0 ≥ 97 then (some (decide (a0 ≤ 122))) else (some false))) else (if a0 ≥ 97 then (some (decide (a0 ≤ 122))) else (some false))
set_option maxHeartbeats 8000000 in
set_option maxRecDepth 100000 in
theorem semantic_isASCIILetter.calls (a0 : Int) (r : Bool) (w : World) (h : semantic_isASCIILetter.f a0 = some r) :
    Calls Tryd.prog 32 #[.int .i32 a0] w fun e w' => e = .returned (.bool r) ∧ Drawn0 w w' := by
  have H : (if a0 ≥ 65 then (if a0 ≤ 90 then (some true) else (if a0 ≥ 97 then (some (decide (a0 ≤ 122))) else (some false))) else (if a0 ≥ 97 then (some (decide (a0 ≤ 122))) else (some false))) = some r := h
  clear h
  by_cases c2 : a0 ≥ 65
  · rw [if_pos c2] at H
    have c2b0 : decide (65 ≤ a0) = true := decide_eq_true c2
    clear c2
    by_cases c3 : a0 ≤ 90
    · rw [if_pos c3] at H
      have c3b0 : decide (a0 ≤ 90) = true := decide_eq_true c3
      clear c3
      obtain rfl := Option.some.inj H
      go_enter Tryd.func32, Tryd.ntmps32
      go_wp2
      go_ret
      exact ⟨by first | rfl | (simp; done) | (simp [*]; done) | (simp [bne_nil_]; done), by repeat (first | exact Drawn0.refl _ | apply Drawn0.step)⟩
    · rw [if_neg c3] at H
      have c3b0 : decide (a0 ≤ 90) = false := decide_eq_false c3
      clear c3
      by_cases c4 : a0 ≥ 97
      · rw [if_pos c4] at H
        have c4b0 : decide (97 ≤ a0) = true := decide_eq_true c4
        clear c4
        obtain rfl := Option.some.inj H
        go_enter Tryd.func32, Tryd.ntmps32
        go_wp2
        go_ret
        exact ⟨by first | rfl | (simp; done) | (simp [*]; done) | (simp [bne_nil_]; done), by repeat (first | exact Drawn0.refl _ | apply Drawn0.step)⟩
      · rw [if_neg c4] at H
        have c4b0 : decide (97 ≤ a0) = false := decide_eq_false c4
        clear c4
        obtain rfl := Option.some.inj H
        go_enter Tryd.func32, Tryd.ntmps32
        go_wp2
        go_ret
        exact ⟨by first | rfl | (simp; done) | (simp [*]; done) | (simp [bne_nil_]; done), by repeat (first | exact Drawn0.refl _ | apply Drawn0.step)⟩
  · rw [if_neg c2] at H
    have c2b0 : decide (65 ≤ a0) = false := decide_eq_false c2
    clear c2
    by_cases c5 : a0 ≥ 97
    · rw [if_pos c5] at H
      have c5b0 : decide (97 ≤ a0) = true := decide_eq_true c5
      clear c5
      obtain rfl := Option.some.inj H
      go_enter Tryd.func32, Tryd.ntmps32
      go_wp2
      go_ret
      exact ⟨by first | rfl | (simp; done) | (simp [*]; done) | (simp [bne_nil_]; done), by repeat (first | exact Drawn0.refl _ | apply Drawn0.step)⟩
    · rw [if_neg c5] at H
      have c5b0 : decide (97 ≤ a0) = false := decide_eq_false c5
      clear c5
      obtain rfl := Option.some.inj H
      go_enter Tryd.func32, Tryd.ntmps32
      go_wp2
      go_ret
      exact ⟨by first | rfl | (simp; done) | (simp [*]; done) | (simp [bne_nil_]; done), by repeat (first | exact Drawn0.refl _ | apply Drawn0.step)⟩

/-! ### semantic_shouldBeTrimmed: function 31 -/
def semantic_shouldBeTrimmed.f (a0 : Int) : Option (Bool) := (semantic_isASCIILetter.f a0).bind fun t110 => (if t110 = true then (some false) else ((semantic_isASCIIDigit.f a0).bind fun t111 => (if t111 = true then (some false) else (if a0 = 126 then (some false) else (some (a0 != 94))))))
set_option maxHeartbeats 8000000 in
set_option maxRecDepth 100000 in
theorem semantic_shouldBeTrimmed.calls (a0 : Int) (r : Bool) (w : World) (h : semantic_shouldBeTrimmed.f a0 = some r) :
    Calls Tryd.prog 31 #[.int .i32 a0] w fun e w' => e = .returned (.bool r) ∧ Drawn0 w w' := by
  have H : ((semantic_isASCIILetter.f a0).bind fun t110 => (if t110 = true then (some false) else ((semantic_isASCIIDigit.f a0).bind fun t111 => (if t111 = true then (some false) else (if a0 = 126 then (some false) else (some (a0 != 94))))))) = some r := h
  clear h
  replace H := Option.bind_eq_some_iff.mp H
  obtain ⟨t110, A20, H⟩ := H
  replace H : (if t110 = true then (some false) else ((semantic_isASCIIDigit.f a0).bind fun t111 => (if t111 = true then (some false) else (if a0 = 126 then (some false) else (some (a0 != 94)))))) = some r := H
  have A2 := Aside0.mk A20
  clear A20
  by_cases c3 : t110 = true
  · subst c3
    have H1 : (some false) = some r := by rw [if_pos rfl] at H; exact H
    clear H
    have H := H1
    clear H1
    obtain rfl := Option.some.inj H
    go_enter Tryd.func31, Tryd.ntmps31
    go_wp2_with (first | ((with_reducible refine gate_callee (f := 32) rfl ?_); refine goesL_ (some 4) rfl rfl Tryd.func32 (by kernel_rfl) rfl #[.int .i32 a0] rfl (by (try simp only [List.map_toArray, List.map_cons, List.map_nil]); first | done | rfl | (simp only [List.length_drop, List.length_take]; rfl)) ?_; (with_reducible refine (semantic_isASCIILetter.calls a0 true _ A2.out).mono ?_); rintro e w' ⟨rfl, ⟨nd, rfl⟩⟩; refine ⟨_, rfl, ?_⟩))
    go_ret
    exact ⟨by first | rfl | (simp; done) | (simp [*]; done) | (simp [bne_nil_]; done), by repeat (first | exact Drawn0.refl _ | apply Drawn0.step)⟩
  · replace c3 := Bool.eq_false_iff.mpr c3
    subst c3
    have H1 : ((semantic_isASCIIDigit.f a0).bind fun t111 => (if t111 = true then (some false) else (if a0 = 126 then (some false) else (some (a0 != 94))))) = some r := by rw [if_neg (show ¬ (false = true) by decide)] at H; exact H
    clear H
    have H := H1
    clear H1
    replace H := Option.bind_eq_some_iff.mp H
    obtain ⟨t111, A40, H⟩ := H
    replace H : (if t111 = true then (some false) else (if a0 = 126 then (some false) else (some (a0 != 94)))) = some r := H
    have A4 := Aside0.mk A40
    clear A40
    by_cases c5 : t111 = true
    · subst c5
      have H1 : (some false) = some r := by rw [if_pos rfl] at H; exact H
      clear H
      have H := H1
      clear H1
      obtain rfl := Option.some.inj H
      go_enter Tryd.func31, Tryd.ntmps31
      go_wp2_with (first | ((with_reducible refine gate_callee (f := 32) rfl ?_); refine goesL_ (some 4) rfl rfl Tryd.func32 (by kernel_rfl) rfl #[.int .i32 a0] rfl (by (try simp only [List.map_toArray, List.map_cons, List.map_nil]); first | done | rfl | (simp only [List.length_drop, List.length_take]; rfl)) ?_; (with_reducible refine (semantic_isASCIILetter.calls a0 false _ A2.out).mono ?_); rintro e w' ⟨rfl, ⟨nd, rfl⟩⟩; refine ⟨_, rfl, ?_⟩) | (go_at_call 24; (with_reducible refine (semantic_isASCIIDigit.calls a0 true _ A4.out).mono ?_); rintro e w' ⟨rfl, ⟨nd, rfl⟩⟩))
      go_ret
      exact ⟨by first | rfl | (simp; done) | (simp [*]; done) | (simp [bne_nil_]; done), by repeat (first | exact Drawn0.refl _ | apply Drawn0.step)⟩
    · replace c5 := Bool.eq_false_iff.mpr c5
      subst c5
      have H1 : (if a0 = 126 then (some false) else (some (a0 != 94))) = some r := by rw [if_neg (show ¬ (false = true) by decide)] at H; exact H
      clear H
      have H := H1
      clear H1
      by_cases c6 : a0 = 126
      · rw [if_pos c6] at H
        have c6b0 : (a0 == 126) = true := beq_iff_eq.mpr c6
        have c6b1 : (a0 != 126) = false := bne_eq_false_iff_eq.mpr c6
        clear c6
        obtain rfl := Option.some.inj H
        go_enter Tryd.func31, Tryd.ntmps31
        go_wp2_with (first | ((with_reducible refine gate_callee (f := 32) rfl ?_); refine goesL_ (some 4) rfl rfl Tryd.func32 (by kernel_rfl) rfl #[.int .i32 a0] rfl (by (try simp only [List.map_toArray, List.map_cons, List.map_nil]); first | done | rfl | (simp only [List.length_drop, List.length_take]; rfl)) ?_; (with_reducible refine (semantic_isASCIILetter.calls a0 false _ A2.out).mono ?_); rintro e w' ⟨rfl, ⟨nd, rfl⟩⟩; refine ⟨_, rfl, ?_⟩) | (go_at_call 24; (with_reducible refine (semantic_isASCIIDigit.calls a0 false _ A4.out).mono ?_); rintro e w' ⟨rfl, ⟨nd, rfl⟩⟩))
        go_ret
        exact ⟨by first | rfl | (simp; done) | (simp [*]; done) | (simp [bne_nil_]; done), by repeat (first | exact Drawn0.refl _ | apply Drawn0.step)⟩
      · rw [if_neg c6] at H
        have c6b0 : (a0 == 126) = false := beq_eq_false_iff_ne.mpr c6
        have c6b1 : (a0 != 126) = true := bne_iff_ne.mpr c6
        obtain rfl := Option.some.inj H
        go_enter Tryd.func31, Tryd.ntmps31
        go_wp2_with (first | ((with_reducible refine gate_callee (f := 32) rfl ?_); refine goesL_ (some 4) rfl rfl Tryd.func32 (by kernel_rfl) rfl #[.int .i32 a0] rfl (by (try simp only [List.map_toArray, List.map_cons, List.map_nil]); first | done | rfl | (simp only [List.length_drop, List.length_take]; rfl)) ?_; (with_reducible refine (semantic_isASCIILetter.calls a0 false _ A2.out).mono ?_); rintro e w' ⟨rfl, ⟨nd, rfl⟩⟩; refine ⟨_, rfl, ?_⟩) | (go_at_call 24; (with_reducible refine (semantic_isASCIIDigit.calls a0 false _ A4.out).mono ?_); rintro e w' ⟨rfl, ⟨nd, rfl⟩⟩))
        go_ret
        exact ⟨by first | rfl | (simp; done) | (simp [*]; done) | (simp [bne_nil_]; done), by repeat (first | exact Drawn0.refl _ | apply Drawn0.step)⟩

-- LEFT OUT: function 42

-- LEFT OUT: function 38

-- LEFT OUT: function 43

-- LEFT OUT: function 39

-- LEFT OUT: function 33

-- LEFT OUT: function 34

-- LEFT OUT: function 35

/-! ### semantic_zzInSet: function 40 -/
def semantic_zzInSet.f (a0 : Int) (a1 : ByteArray) : Option (Bool) := none
set_option maxHeartbeats 8000000 in
set_option maxRecDepth 100000 in
theorem semantic_zzInSet.calls (a0 : Int) (a1 : ByteArray) (r : Bool) (w : World) (h : semantic_zzInSet.f a0 a1 = some r) :
    Calls Tryd.prog 40 #[.int .i32 a0, .string a1] w fun e w' => e = .returned (.bool r) ∧ Drawn0 w w' := by
  have H : (none) = some r := h
  clear h
  exact absurd H (by simp)

/-! ### semantic_zzTrimLeft: function 36 -/
def semantic_zzTrimLeft.f (a0 : ByteArray) (a1 : ByteArray) : Option (ByteArray) := none
set_option maxHeartbeats 8000000 in
set_option maxRecDepth 100000 in
theorem semantic_zzTrimLeft.calls (a0 : ByteArray) (a1 : ByteArray) (r : ByteArray) (w : World) (h : semantic_zzTrimLeft.f a0 a1 = some r) :
    Calls Tryd.prog 36 #[.string a0, .string a1] w fun e w' => e = .returned (.string r) ∧ Drawn0 w w' := by
  have H : (none) = some r := h
  clear h
  exact absurd H (by simp)

-- LEFT OUT: function 44

-- LEFT OUT: function 41

-- LEFT OUT: function 37

-- GIVEN: function 25 (semantic_compareRedHatComponents)

/-! ### semantic_RedHatVersion_compare: function 16 -/
def semantic_RedHatVersion_compare.f (a0_0 : ByteArray) (a0_1 : ByteArray) (a0_2 : ByteArray) (a1_0 : ByteArray) (a1_1 : ByteArray) (a1_2 : ByteArray) : Option (Int) := (Giv.semantic_compareRedHatComponents.f a0_0 a1_0).bind fun t114 => (if t114 = 0 then ((Giv.semantic_compareRedHatComponents.f a0_1 a1_1).bind fun t115 => (if t115 = 0 then ((Giv.semantic_compareRedHatComponents.f a0_2 a1_2).bind fun t116 => (if t116 = 0 then (some 0) else (some t116))) else (some t115))) else (some t114))
set_option maxHeartbeats 8000000 in
set_option maxRecDepth 100000 in
theorem semantic_RedHatVersion_compare.calls (a0_0 : ByteArray) (a0_1 : ByteArray) (a0_2 : ByteArray) (a1_0 : ByteArray) (a1_1 : ByteArray) (a1_2 : ByteArray) (r : Int) (w : World) (h : semantic_RedHatVersion_compare.f a0_0 a0_1 a0_2 a1_0 a1_1 a1_2 = some r) :
    Calls Tryd.prog 16 #[.agg #[.string a0_0, .string a0_1, .string a0_2], .agg #[.string a1_0, .string a1_1, .string a1_2]] w fun e w' => e = .returned (.int .i64 r) ∧ Below w.heap.size w w' := by
  have hu33 := Tryd.underlying33
  have HB := Aside0.mk (Below.refl w.heap.size w)
  have H : ((Giv.semantic_compareRedHatComponents.f a0_0 a1_0).bind fun t114 => (if t114 = 0 then ((Giv.semantic_compareRedHatComponents.f a0_1 a1_1).bind fun t115 => (if t115 = 0 then ((Giv.semantic_compareRedHatComponents.f a0_2 a1_2).bind fun t116 => (if t116 = 0 then (some 0) else (some t116))) else (some t115))) else (some t114))) = some r := h
  clear h
  replace H := Option.bind_eq_some_iff.mp H
  obtain ⟨t114, A30, H⟩ := H
  replace H : (if t114 = 0 then ((Giv.semantic_compareRedHatComponents.f a0_1 a1_1).bind fun t115 => (if t115 = 0 then ((Giv.semantic_compareRedHatComponents.f a0_2 a1_2).bind fun t116 => (if t116 = 0 then (some 0) else (some t116))) else (some t115))) else (some t114)) = some r := H
  have A3 := Aside0.mk A30
  clear A30
  by_cases c4 : t114 = 0
  · rw [if_pos c4] at H
    have c4b0 : (t114 == 0) = true := beq_iff_eq.mpr c4
    have c4b1 : (t114 != 0) = false := bne_eq_false_iff_eq.mpr c4
    clear c4
    replace H := Option.bind_eq_some_iff.mp H
    obtain ⟨t115, A50, H⟩ := H
    replace H : (if t115 = 0 then ((Giv.semantic_compareRedHatComponents.f a0_2 a1_2).bind fun t116 => (if t116 = 0 then (some 0) else (some t116))) else (some t115)) = some r := H
    have A5 := Aside0.mk A50
    clear A50
    by_cases c6 : t115 = 0
    · rw [if_pos c6] at H
      have c6b0 : (t115 == 0) = true := beq_iff_eq.mpr c6
      have c6b1 : (t115 != 0) = false := bne_eq_false_iff_eq.mpr c6
      clear c6
      replace H := Option.bind_eq_some_iff.mp H
      obtain ⟨t116, A70, H⟩ := H
      replace H : (if t116 = 0 then (some 0) else (some t116)) = some r := H
      have A7 := Aside0.mk A70
      clear A70
      by_cases c8 : t116 = 0
      · rw [if_pos c8] at H
        have c8b0 : (t116 == 0) = true := beq_iff_eq.mpr c8
        have c8b1 : (t116 != 0) = false := bne_eq_false_iff_eq.mpr c8
        clear c8
        obtain rfl := Option.some.inj H
        go_enter Tryd.func16, Tryd.ntmps16
        go_wp2_with (first | ((with_reducible refine gate_dst (N := 2) rfl ?_); refine box_event ?hg (N := 2) ?hd (cs := #[.string a0_0, .string a0_1, .string a0_2]) (t := 33) ?hr ?_; (case hd => rfl); (case hg => rfl); (case hr => first | (go_simp; done) | (go_simp; rfl)); intro gb112 hg w9 hbox hb; have n0_ := Aside0.mk (below_step (by repeat (first | (with_reducible first | exact HB.out | apply below_alloc | apply pw_below_drewN | apply below_drew1) | exact HB.out)) hb); have n1_ := Aside0.mk (hbox); have n2_ := Aside0.mk ((by rw [hg]; exact (below_size (by repeat (first | (with_reducible first | exact HB.out | apply below_alloc | apply pw_below_drewN | apply below_drew1) | exact HB.out))) : w.heap.size ≤ gb112)); have n3_ := Aside0.mk ((by rw [hg]; exact (below_size (by repeat (first | (with_reducible first | exact HB.out | apply below_alloc | apply pw_below_drewN | apply below_drew1) | exact HB.out))) : w.heap.size ≤ gb112)); clear HB; have HB := n0_; have BK112 := n1_; have GW112 := n2_; have GE112 := n3_; clear n0_ n1_ n2_ n3_; clear hb hbox hg) | ((with_reducible refine gate_dst (N := 3) rfl ?_); refine box_event ?hg (N := 3) ?hd (cs := #[.string a1_0, .string a1_1, .string a1_2]) (t := 33) ?hr ?_; (case hd => rfl); (case hg => rfl); (case hr => first | (go_simp; done) | (go_simp; rfl)); intro gb113 hg w10 hbox hb; have n0_ := Aside0.mk (blk_below (g := gb112) (o := .cells #[.string a0_0, .string a0_1, .string a0_2] 33 (0, 0)) (by (with_reducible repeat (first | refine blk_drewN ?_ _ | refine blk_drew ?_ | refine blk_alloc ?_ _)); exact BK112.out) hb); have n1_ := Aside0.mk (below_step (by repeat (first | (with_reducible first | exact HB.out | apply below_alloc | apply pw_below_drewN | apply below_drew1 | refine below_set ?_ GE112.out) | exact HB.out)) hb); have n2_ := Aside0.mk (hbox); have n3_ := Aside0.mk ((by rw [hg]; exact (below_size (by repeat (first | (with_reducible first | exact HB.out | apply below_alloc | apply pw_below_drewN | apply below_drew1 | refine below_set ?_ GE112.out) | exact HB.out))) : w.heap.size ≤ gb113)); have n4_ := Aside0.mk ((by rw [hg]; exact (below_size (by repeat (first | (with_reducible first | exact HB.out | apply below_alloc | apply pw_below_drewN | apply below_drew1 | refine below_set ?_ GE112.out) | exact HB.out))) : w.heap.size ≤ gb113)); have n5_ := Aside0.mk ((by rw [hg]; exact Nat.ne_of_lt (blk_lt (g := gb112) (o := .cells #[.string a0_0, .string a0_1, .string a0_2] 33 (0, 0)) (by (with_reducible repeat (first | refine blk_drewN ?_ _ | refine blk_drew ?_ | refine blk_alloc ?_ _)); exact BK112.out)) : gb112 ≠ gb113)); have n6_ := Aside0.mk ((by rw [hg]; exact Nat.ne_of_gt (blk_lt (g := gb112) (o := .cells #[.string a0_0, .string a0_1, .string a0_2] 33 (0, 0)) (by (with_reducible repeat (first | refine blk_drewN ?_ _ | refine blk_drew ?_ | refine blk_alloc ?_ _)); exact BK112.out)) : gb113 ≠ gb112)); clear BK112; clear HB; have BK112 := n0_; have HB := n1_; have BK113 := n2_; have GW113 := n3_; have GE113 := n4_; have NB112_113 := n5_; have NB113_112 := n6_; clear n0_ n1_ n2_ n3_ n4_ n5_ n6_; clear hb hbox hg; have hnb11 := NB112_113.out; have hnc11 := NB113_112.out; have hcz12_0 : w10.cell? ⟨gb112, 0, none⟩ = some (.string a0_0) := (blk_cell BK112.out 0).trans rfl; have hcz12_1 : w10.cell? ⟨gb112, 1, none⟩ = some (.string a0_1) := (blk_cell BK112.out 1).trans rfl; have hcz12_2 : w10.cell? ⟨gb112, 2, none⟩ = some (.string a0_2) := (blk_cell BK112.out 2).trans rfl; have hfz12_0 := blk_frozen BK112.out 0; have hfz12_1 := blk_frozen BK112.out 1; have hfz12_2 := blk_frozen BK112.out 2; have hcz13_0 : w10.cell? ⟨gb113, 0, none⟩ = some (.string a1_0) := (blk_cell BK113.out 0).trans rfl; have hcz13_1 : w10.cell? ⟨gb113, 1, none⟩ = some (.string a1_1) := (blk_cell BK113.out 1).trans rfl; have hcz13_2 : w10.cell? ⟨gb113, 2, none⟩ = some (.string a1_2) := (blk_cell BK113.out 2).trans rfl; have hfz13_0 := blk_frozen BK113.out 0; have hfz13_1 := blk_frozen BK113.out 1; have hfz13_2 := blk_frozen BK113.out 2) | ((with_reducible refine gate_callee (f := 25) rfl ?_); refine goesL_ (some 12) rfl rfl Tryd.func25 (by kernel_rfl) rfl #[.string a0_0, .string a1_0] rfl (by (try simp only [List.map_toArray, List.map_cons, List.map_nil]); first | done | rfl | (simp only [List.length_drop, List.length_take]; rfl)) ?_; (with_reducible refine (Giv.semantic_compareRedHatComponents.calls a0_0 a1_0 t114 _ A3.out).mono ?_); rintro e w14 ⟨rfl, hb⟩; refine ⟨_, rfl, ?_⟩; have n0_ := Aside0.mk (blk_below (g := gb112) (o := .cells #[.string a0_0, .string a0_1, .string a0_2] 33 (0, 0)) (by (with_reducible repeat (first | refine blk_drewN ?_ _ | refine blk_drew ?_ | refine blk_alloc ?_ _)); exact BK112.out) hb); have n1_ := Aside0.mk (blk_below (g := gb113) (o := .cells #[.string a1_0, .string a1_1, .string a1_2] 33 (0, 0)) (by (with_reducible repeat (first | refine blk_drewN ?_ _ | refine blk_drew ?_ | refine blk_alloc ?_ _)); exact BK113.out) hb); have n2_ := Aside0.mk (below_step (by repeat (first | (with_reducible first | exact HB.out | apply below_alloc | apply pw_below_drewN | apply below_drew1 | refine below_set ?_ GE112.out | refine below_set ?_ GE113.out) | exact HB.out)) hb); clear BK112; clear BK113; clear HB; have BK112 := n0_; have BK113 := n1_; have HB := n2_; clear n0_ n1_ n2_; (try clear hb); (try clear hb2); (try clear hk); (try clear hi); have hcz15_0 : w14.cell? ⟨gb112, 0, none⟩ = some (.string a0_0) := (blk_cell BK112.out 0).trans rfl; have hcz15_1 : w14.cell? ⟨gb112, 1, none⟩ = some (.string a0_1) := (blk_cell BK112.out 1).trans rfl; have hcz15_2 : w14.cell? ⟨gb112, 2, none⟩ = some (.string a0_2) := (blk_cell BK112.out 2).trans rfl; have hfz15_0 := blk_frozen BK112.out 0; have hfz15_1 := blk_frozen BK112.out 1; have hfz15_2 := blk_frozen BK112.out 2; have hcz16_0 : w14.cell? ⟨gb113, 0, none⟩ = some (.string a1_0) := (blk_cell BK113.out 0).trans rfl; have hcz16_1 : w14.cell? ⟨gb113, 1, none⟩ = some (.string a1_1) := (blk_cell BK113.out 1).trans rfl; have hcz16_2 : w14.cell? ⟨gb113, 2, none⟩ = some (.string a1_2) := (blk_cell BK113.out 2).trans rfl; have hfz16_0 := blk_frozen BK113.out 0; have hfz16_1 := blk_frozen BK113.out 1; have hfz16_2 := blk_frozen BK113.out 2) | ((with_reducible refine gate_callee (f := 25) rfl ?_); refine goesL_ (some 20) rfl rfl Tryd.func25 (by kernel_rfl) rfl #[.string a0_1, .string a1_1] rfl (by (try simp only [List.map_toArray, List.map_cons, List.map_nil]); first | done | rfl | (simp only [List.length_drop, List.length_take]; rfl)) ?_; (with_reducible refine (Giv.semantic_compareRedHatComponents.calls a0_1 a1_1 t115 _ A5.out).mono ?_); rintro e w17 ⟨rfl, hb⟩; refine ⟨_, rfl, ?_⟩; have n0_ := Aside0.mk (blk_below (g := gb112) (o := .cells #[.string a0_0, .string a0_1, .string a0_2] 33 (0, 0)) (by (with_reducible repeat (first | refine blk_drewN ?_ _ | refine blk_drew ?_ | refine blk_alloc ?_ _)); exact BK112.out) hb); have n1_ := Aside0.mk (blk_below (g := gb113) (o := .cells #[.string a1_0, .string a1_1, .string a1_2] 33 (0, 0)) (by (with_reducible repeat (first | refine blk_drewN ?_ _ | refine blk_drew ?_ | refine blk_alloc ?_ _)); exact BK113.out) hb); have n2_ := Aside0.mk (below_step (by repeat (first | (with_reducible first | exact HB.out | apply below_alloc | apply pw_below_drewN | apply below_drew1 | refine below_set ?_ GE112.out | refine below_set ?_ GE113.out) | exact HB.out)) hb); clear BK112; clear BK113; clear HB; have BK112 := n0_; have BK113 := n1_; have HB := n2_; clear n0_ n1_ n2_; (try clear hb); (try clear hb2); (try clear hk); (try clear hi); have hcz18_0 : w17.cell? ⟨gb112, 0, none⟩ = some (.string a0_0) := (blk_cell BK112.out 0).trans rfl; have hcz18_1 : w17.cell? ⟨gb112, 1, none⟩ = some (.string a0_1) := (blk_cell BK112.out 1).trans rfl; have hcz18_2 : w17.cell? ⟨gb112, 2, none⟩ = some (.string a0_2) := (blk_cell BK112.out 2).trans rfl; have hfz18_0 := blk_frozen BK112.out 0; have hfz18_1 := blk_frozen BK112.out 1; have hfz18_2 := blk_frozen BK112.out 2; have hcz19_0 : w17.cell? ⟨gb113, 0, none⟩ = some (.string a1_0) := (blk_cell BK113.out 0).trans rfl; have hcz19_1 : w17.cell? ⟨gb113, 1, none⟩ = some (.string a1_1) := (blk_cell BK113.out 1).trans rfl; have hcz19_2 : w17.cell? ⟨gb113, 2, none⟩ = some (.string a1_2) := (blk_cell BK113.out 2).trans rfl; have hfz19_0 := blk_frozen BK113.out 0; have hfz19_1 := blk_frozen BK113.out 1; have hfz19_2 := blk_frozen BK113.out 2) | ((with_reducible refine gate_callee (f := 25) rfl ?_); refine goesL_ (some 28) rfl rfl Tryd.func25 (by kernel_rfl) rfl #[.string a0_2, .string a1_2] rfl (by (try simp only [List.map_toArray, List.map_cons, List.map_nil]); first | done | rfl | (simp only [List.length_drop, List.length_take]; rfl)) ?_; (with_reducible refine (Giv.semantic_compareRedHatComponents.calls a0_2 a1_2 t116 _ A7.out).mono ?_); rintro e w20 ⟨rfl, hb⟩; refine ⟨_, rfl, ?_⟩; have n0_ := Aside0.mk (blk_below (g := gb112) (o := .cells #[.string a0_0, .string a0_1, .string a0_2] 33 (0, 0)) (by (with_reducible repeat (first | refine blk_drewN ?_ _ | refine blk_drew ?_ | refine blk_alloc ?_ _)); exact BK112.out) hb); have n1_ := Aside0.mk (blk_below (g := gb113) (o := .cells #[.string a1_0, .string a1_1, .string a1_2] 33 (0, 0)) (by (with_reducible repeat (first | refine blk_drewN ?_ _ | refine blk_drew ?_ | refine blk_alloc ?_ _)); exact BK113.out) hb); have n2_ := Aside0.mk (below_step (by repeat (first | (with_reducible first | exact HB.out | apply below_alloc | apply pw_below_drewN | apply below_drew1 | refine below_set ?_ GE112.out | refine below_set ?_ GE113.out) | exact HB.out)) hb); clear BK112; clear BK113; clear HB; have BK112 := n0_; have BK113 := n1_; have HB := n2_; clear n0_ n1_ n2_; (try clear hb); (try clear hb2); (try clear hk); (try clear hi)))
        go_ret
        exact ⟨by first | rfl | (simp [errW_none, errW_some] <;> rfl) | (simp [*, errW_none, errW_some] <;> rfl) | (simp [bne_nil_]; done), by repeat (first | (with_reducible first | exact HB.out | apply below_alloc | apply pw_below_drewN | apply below_drew1 | refine below_set ?_ GE112.out | refine below_set ?_ GE113.out) | exact HB.out)⟩
      · rw [if_neg c8] at H
        have c8b0 : (t116 == 0) = false := beq_eq_false_iff_ne.mpr c8
        have c8b1 : (t116 != 0) = true := bne_iff_ne.mpr c8
        obtain rfl := Option.some.inj H
        go_enter Tryd.func16, Tryd.ntmps16
        go_wp2_with (first | ((with_reducible refine gate_dst (N := 2) rfl ?_); refine box_event ?hg (N := 2) ?hd (cs := #[.string a0_0, .string a0_1, .string a0_2]) (t := 33) ?hr ?_; (case hd => rfl); (case hg => rfl); (case hr => first | (go_simp; done) | (go_simp; rfl)); intro gb112 hg w21 hbox hb; have n0_ := Aside0.mk (below_step (by repeat (first | (with_reducible first | exact HB.out | apply below_alloc | apply pw_below_drewN | apply below_drew1) | exact HB.out)) hb); have n1_ := Aside0.mk (hbox); have n2_ := Aside0.mk ((by rw [hg]; exact (below_size (by repeat (first | (with_reducible first | exact HB.out | apply below_alloc | apply pw_below_drewN | apply below_drew1) | exact HB.out))) : w.heap.size ≤ gb112)); have n3_ := Aside0.mk ((by rw [hg]; exact (below_size (by repeat (first | (with_reducible first | exact HB.out | apply below_alloc | apply pw_below_drewN | apply below_drew1) | exact HB.out))) : w.heap.size ≤ gb112)); clear HB; have HB := n0_; have BK112 := n1_; have GW112 := n2_; have GE112 := n3_; clear n0_ n1_ n2_ n3_; clear hb hbox hg) | ((with_reducible refine gate_dst (N := 3) rfl ?_); refine box_event ?hg (N := 3) ?hd (cs := #[.string a1_0, .string a1_1, .string a1_2]) (t := 33) ?hr ?_; (case hd => rfl); (case hg => rfl); (case hr => first | (go_simp; done) | (go_simp; rfl)); intro gb113 hg w22 hbox hb; have n0_ := Aside0.mk (blk_below (g := gb112) (o := .cells #[.string a0_0, .string a0_1, .string a0_2] 33 (0, 0)) (by (with_reducible repeat (first | refine blk_drewN ?_ _ | refine blk_drew ?_ | refine blk_alloc ?_ _)); exact BK112.out) hb); have n1_ := Aside0.mk (below_step (by repeat (first | (with_reducible first | exact HB.out | apply below_alloc | apply pw_below_drewN | apply below_drew1 | refine below_set ?_ GE112.out) | exact HB.out)) hb); have n2_ := Aside0.mk (hbox); have n3_ := Aside0.mk ((by rw [hg]; exact (below_size (by repeat (first | (with_reducible first | exact HB.out | apply below_alloc | apply pw_below_drewN | apply below_drew1 | refine below_set ?_ GE112.out) | exact HB.out))) : w.heap.size ≤ gb113)); have n4_ := Aside0.mk ((by rw [hg]; exact (below_size (by repeat (first | (with_reducible first | exact HB.out | apply below_alloc | apply pw_below_drewN | apply below_drew1 | refine below_set ?_ GE112.out) | exact HB.out))) : w.heap.size ≤ gb113)); have n5_ := Aside0.mk ((by rw [hg]; exact Nat.ne_of_lt (blk_lt (g := gb112) (o := .cells #[.string a0_0, .string a0_1, .string a0_2] 33 (0, 0)) (by (with_reducible repeat (first | refine blk_drewN ?_ _ | refine blk_drew ?_ | refine blk_alloc ?_ _)); exact BK112.out)) : gb112 ≠ gb113)); have n6_ := Aside0.mk ((by rw [hg]; exact Nat.ne_of_gt (blk_lt (g := gb112) (o := .cells #[.string a0_0, .string a0_1, .string a0_2] 33 (0, 0)) (by (with_reducible repeat (first | refine blk_drewN ?_ _ | refine blk_drew ?_ | refine blk_alloc ?_ _)); exact BK112.out)) : gb113 ≠ gb112)); clear BK112; clear HB; have BK112 := n0_; have HB := n1_; have BK113 := n2_; have GW113 := n3_; have GE113 := n4_; have NB112_113 := n5_; have NB113_112 := n6_; clear n0_ n1_ n2_ n3_ n4_ n5_ n6_; clear hb hbox hg; have hnb23 := NB112_113.out; have hnc23 := NB113_112.out; have hcz24_0 : w22.cell? ⟨gb112, 0, none⟩ = some (.string a0_0) := (blk_cell BK112.out 0).trans rfl; have hcz24_1 : w22.cell? ⟨gb112, 1, none⟩ = some (.string a0_1) := (blk_cell BK112.out 1).trans rfl; have hcz24_2 : w22.cell? ⟨gb112, 2, none⟩ = some (.string a0_2) := (blk_cell BK112.out 2).trans rfl; have hfz24_0 := blk_frozen BK112.out 0; have hfz24_1 := blk_frozen BK112.out 1; have hfz24_2 := blk_frozen BK112.out 2; have hcz25_0 : w22.cell? ⟨gb113, 0, none⟩ = some (.string a1_0) := (blk_cell BK113.out 0).trans rfl; have hcz25_1 : w22.cell? ⟨gb113, 1, none⟩ = some (.string a1_1) := (blk_cell BK113.out 1).trans rfl; have hcz25_2 : w22.cell? ⟨gb113, 2, none⟩ = some (.string a1_2) := (blk_cell BK113.out 2).trans rfl; have hfz25_0 := blk_frozen BK113.out 0; have hfz25_1 := blk_frozen BK113.out 1; have hfz25_2 := blk_frozen BK113.out 2) | ((with_reducible refine gate_callee (f := 25) rfl ?_); refine goesL_ (some 12) rfl rfl Tryd.func25 (by kernel_rfl) rfl #[.string a0_0, .string a1_0] rfl (by (try simp only [List.map_toArray, List.map_cons, List.map_nil]); first | done | rfl | (simp only [List.length_drop, List.length_take]; rfl)) ?_; (with_reducible refine (Giv.semantic_compareRedHatComponents.calls a0_0 a1_0 t114 _ A3.out).mono ?_); rintro e w26 ⟨rfl, hb⟩; refine ⟨_, rfl, ?_⟩; have n0_ := Aside0.mk (blk_below (g := gb112) (o := .cells #[.string a0_0, .string a0_1, .string a0_2] 33 (0, 0)) (by (with_reducible repeat (first | refine blk_drewN ?_ _ | refine blk_drew ?_ | refine blk_alloc ?_ _)); exact BK112.out) hb); have n1_ := Aside0.mk (blk_below (g := gb113) (o := .cells #[.string a1_0, .string a1_1, .string a1_2] 33 (0, 0)) (by (with_reducible repeat (first | refine blk_drewN ?_ _ | refine blk_drew ?_ | refine blk_alloc ?_ _)); exact BK113.out) hb); have n2_ := Aside0.mk (below_step (by repeat (first | (with_reducible first | exact HB.out | apply below_alloc | apply pw_below_drewN | apply below_drew1 | refine below_set ?_ GE112.out | refine below_set ?_ GE113.out) | exact HB.out)) hb); clear BK112; clear BK113; clear HB; have BK112 := n0_; have BK113 := n1_; have HB := n2_; clear n0_ n1_ n2_; (try clear hb); (try clear hb2); (try clear hk); (try clear hi); have hcz27_0 : w26.cell? ⟨gb112, 0, none⟩ = some (.string a0_0) := (blk_cell BK112.out 0).trans rfl; have hcz27_1 : w26.cell? ⟨gb112, 1, none⟩ = some (.string a0_1) := (blk_cell BK112.out 1).trans rfl; have hcz27_2 : w26.cell? ⟨gb112, 2, none⟩ = some (.string a0_2) := (blk_cell BK112.out 2).trans rfl; have hfz27_0 := blk_frozen BK112.out 0; have hfz27_1 := blk_frozen BK112.out 1; have hfz27_2 := blk_frozen BK112.out 2; have hcz28_0 : w26.cell? ⟨gb113, 0, none⟩ = some (.string a1_0) := (blk_cell BK113.out 0).trans rfl; have hcz28_1 : w26.cell? ⟨gb113, 1, none⟩ = some (.string a1_1) := (blk_cell BK113.out 1).trans rfl; have hcz28_2 : w26.cell? ⟨gb113, 2, none⟩ = some (.string a1_2) := (blk_cell BK113.out 2).trans rfl; have hfz28_0 := blk_frozen BK113.out 0; have hfz28_1 := blk_frozen BK113.out 1; have hfz28_2 := blk_frozen BK113.out 2) | ((with_reducible refine gate_callee (f := 25) rfl ?_); refine goesL_ (some 20) rfl rfl Tryd.func25 (by kernel_rfl) rfl #[.string a0_1, .string a1_1] rfl (by (try simp only [List.map_toArray, List.map_cons, List.map_nil]); first | done | rfl | (simp only [List.length_drop, List.length_take]; rfl)) ?_; (with_reducible refine (Giv.semantic_compareRedHatComponents.calls a0_1 a1_1 t115 _ A5.out).mono ?_); rintro e w29 ⟨rfl, hb⟩; refine ⟨_, rfl, ?_⟩; have n0_ := Aside0.mk (blk_below (g := gb112) (o := .cells #[.string a0_0, .string a0_1, .string a0_2] 33 (0, 0)) (by (with_reducible repeat (first | refine blk_drewN ?_ _ | refine blk_drew ?_ | refine blk_alloc ?_ _)); exact BK112.out) hb); have n1_ := Aside0.mk (blk_below (g := gb113) (o := .cells #[.string a1_0, .string a1_1, .string a1_2] 33 (0, 0)) (by (with_reducible repeat (first | refine blk_drewN ?_ _ | refine blk_drew ?_ | refine blk_alloc ?_ _)); exact BK113.out) hb); have n2_ := Aside0.mk (below_step (by repeat (first | (with_reducible first | exact HB.out | apply below_alloc | apply pw_below_drewN | apply below_drew1 | refine below_set ?_ GE112.out | refine below_set ?_ GE113.out) | exact HB.out)) hb); clear BK112; clear BK113; clear HB; have BK112 := n0_; have BK113 := n1_; have HB := n2_; clear n0_ n1_ n2_; (try clear hb); (try clear hb2); (try clear hk); (try clear hi); have hcz30_0 : w29.cell? ⟨gb112, 0, none⟩ = some (.string a0_0) := (blk_cell BK112.out 0).trans rfl; have hcz30_1 : w29.cell? ⟨gb112, 1, none⟩ = some (.string a0_1) := (blk_cell BK112.out 1).trans rfl; have hcz30_2 : w29.cell? ⟨gb112, 2, none⟩ = some (.string a0_2) := (blk_cell BK112.out 2).trans rfl; have hfz30_0 := blk_frozen BK112.out 0; have hfz30_1 := blk_frozen BK112.out 1; have hfz30_2 := blk_frozen BK112.out 2; have hcz31_0 : w29.cell? ⟨gb113, 0, none⟩ = some (.string a1_0) := (blk_cell BK113.out 0).trans rfl; have hcz31_1 : w29.cell? ⟨gb113, 1, none⟩ = some (.string a1_1) := (blk_cell BK113.out 1).trans rfl; have hcz31_2 : w29.cell? ⟨gb113, 2, none⟩ = some (.string a1_2) := (blk_cell BK113.out 2).trans rfl; have hfz31_0 := blk_frozen BK113.out 0; have hfz31_1 := blk_frozen BK113.out 1; have hfz31_2 := blk_frozen BK113.out 2) | ((with_reducible refine gate_callee (f := 25) rfl ?_); refine goesL_ (some 28) rfl rfl Tryd.func25 (by kernel_rfl) rfl #[.string a0_2, .string a1_2] rfl (by (try simp only [List.map_toArray, List.map_cons, List.map_nil]); first | done | rfl | (simp only [List.length_drop, List.length_take]; rfl)) ?_; (with_reducible refine (Giv.semantic_compareRedHatComponents.calls a0_2 a1_2 t116 _ A7.out).mono ?_); rintro e w32 ⟨rfl, hb⟩; refine ⟨_, rfl, ?_⟩; have n0_ := Aside0.mk (blk_below (g := gb112) (o := .cells #[.string a0_0, .string a0_1, .string a0_2] 33 (0, 0)) (by (with_reducible repeat (first | refine blk_drewN ?_ _ | refine blk_drew ?_ | refine blk_alloc ?_ _)); exact BK112.out) hb); have n1_ := Aside0.mk (blk_below (g := gb113) (o := .cells #[.string a1_0, .string a1_1, .string a1_2] 33 (0, 0)) (by (with_reducible repeat (first | refine blk_drewN ?_ _ | refine blk_drew ?_ | refine blk_alloc ?_ _)); exact BK113.out) hb); have n2_ := Aside0.mk (below_step (by repeat (first | (with_reducible first | exact HB.out | apply below_alloc | apply pw_below_drewN | apply below_drew1 | refine below_set ?_ GE112.out | refine below_set ?_ GE113.out) | exact HB.out)) hb); clear BK112; clear BK113; clear HB; have BK112 := n0_; have BK113 := n1_; have HB := n2_; clear n0_ n1_ n2_; (try clear hb); (try clear hb2); (try clear hk); (try clear hi)))
        go_ret
        exact ⟨by first | rfl | (simp [errW_none, errW_some] <;> rfl) | (simp [*, errW_none, errW_some] <;> rfl) | (simp [bne_nil_]; done), by repeat (first | (with_reducible first | exact HB.out | apply below_alloc | apply pw_below_drewN | apply below_drew1 | refine below_set ?_ GE112.out | refine below_set ?_ GE113.out) | exact HB.out)⟩
    · rw [if_neg c6] at H
      have c6b0 : (t115 == 0) = false := beq_eq_false_iff_ne.mpr c6
      have c6b1 : (t115 != 0) = true := bne_iff_ne.mpr c6
      obtain rfl := Option.some.inj H
      go_enter Tryd.func16, Tryd.ntmps16
      go_wp2_with (first | ((with_reducible refine gate_dst (N := 2) rfl ?_); refine box_event ?hg (N := 2) ?hd (cs := #[.string a0_0, .string a0_1, .string a0_2]) (t := 33) ?hr ?_; (case hd => rfl); (case hg => rfl); (case hr => first | (go_simp; done) | (go_simp; rfl)); intro gb112 hg w33 hbox hb; have n0_ := Aside0.mk (below_step (by repeat (first | (with_reducible first | exact HB.out | apply below_alloc | apply pw_below_drewN | apply below_drew1) | exact HB.out)) hb); have n1_ := Aside0.mk (hbox); have n2_ := Aside0.mk ((by rw [hg]; exact (below_size (by repeat (first | (with_reducible first | exact HB.out | apply below_alloc | apply pw_below_drewN | apply below_drew1) | exact HB.out))) : w.heap.size ≤ gb112)); have n3_ := Aside0.mk ((by rw [hg]; exact (below_size (by repeat (first | (with_reducible first | exact HB.out | apply below_alloc | apply pw_below_drewN | apply below_drew1) | exact HB.out))) : w.heap.size ≤ gb112)); clear HB; have HB := n0_; have BK112 := n1_; have GW112 := n2_; have GE112 := n3_; clear n0_ n1_ n2_ n3_; clear hb hbox hg) | ((with_reducible refine gate_dst (N := 3) rfl ?_); refine box_event ?hg (N := 3) ?hd (cs := #[.string a1_0, .string a1_1, .string a1_2]) (t := 33) ?hr ?_; (case hd => rfl); (case hg => rfl); (case hr => first | (go_simp; done) | (go_simp; rfl)); intro gb113 hg w34 hbox hb; have n0_ := Aside0.mk (blk_below (g := gb112) (o := .cells #[.string a0_0, .string a0_1, .string a0_2] 33 (0, 0)) (by (with_reducible repeat (first | refine blk_drewN ?_ _ | refine blk_drew ?_ | refine blk_alloc ?_ _)); exact BK112.out) hb); have n1_ := Aside0.mk (below_step (by repeat (first | (with_reducible first | exact HB.out | apply below_alloc | apply pw_below_drewN | apply below_drew1 | refine below_set ?_ GE112.out) | exact HB.out)) hb); have n2_ := Aside0.mk (hbox); have n3_ := Aside0.mk ((by rw [hg]; exact (below_size (by repeat (first | (with_reducible first | exact HB.out | apply below_alloc | apply pw_below_drewN | apply below_drew1 | refine below_set ?_ GE112.out) | exact HB.out))) : w.heap.size ≤ gb113)); have n4_ := Aside0.mk ((by rw [hg]; exact (below_size (by repeat (first | (with_reducible first | exact HB.out | apply below_alloc | apply pw_below_drewN | apply below_drew1 | refine below_set ?_ GE112.out) | exact HB.out))) : w.heap.size ≤ gb113)); have n5_ := Aside0.mk ((by rw [hg]; exact Nat.ne_of_lt (blk_lt (g := gb112) (o := .cells #[.string a0_0, .string a0_1, .string a0_2] 33 (0, 0)) (by (with_reducible repeat (first | refine blk_drewN ?_ _ | refine blk_drew ?_ | refine blk_alloc ?_ _)); exact BK112.out)) : gb112 ≠ gb113)); have n6_ := Aside0.mk ((by rw [hg]; exact Nat.ne_of_gt (blk_lt (g := gb112) (o := .cells #[.string a0_0, .string a0_1, .string a0_2] 33 (0, 0)) (by (with_reducible repeat (first | refine blk_drewN ?_ _ | refine blk_drew ?_ | refine blk_alloc ?_ _)); exact BK112.out)) : gb113 ≠ gb112)); clear BK112; clear HB; have BK112 := n0_; have HB := n1_; have BK113 := n2_; have GW113 := n3_; have GE113 := n4_; have NB112_113 := n5_; have NB113_112 := n6_; clear n0_ n1_ n2_ n3_ n4_ n5_ n6_; clear hb hbox hg; have hnb35 := NB112_113.out; have hnc35 := NB113_112.out; have hcz36_0 : w34.cell? ⟨gb112, 0, none⟩ = some (.string a0_0) := (blk_cell BK112.out 0).trans rfl; have hcz36_1 : w34.cell? ⟨gb112, 1, none⟩ = some (.string a0_1) := (blk_cell BK112.out 1).trans rfl; have hcz36_2 : w34.cell? ⟨gb112, 2, none⟩ = some (.string a0_2) := (blk_cell BK112.out 2).trans rfl; have hfz36_0 := blk_frozen BK112.out 0; have hfz36_1 := blk_frozen BK112.out 1; have hfz36_2 := blk_frozen BK112.out 2; have hcz37_0 : w34.cell? ⟨gb113, 0, none⟩ = some (.string a1_0) := (blk_cell BK113.out 0).trans rfl; have hcz37_1 : w34.cell? ⟨gb113, 1, none⟩ = some (.string a1_1) := (blk_cell BK113.out 1).trans rfl; have hcz37_2 : w34.cell? ⟨gb113, 2, none⟩ = some (.string a1_2) := (blk_cell BK113.out 2).trans rfl; have hfz37_0 := blk_frozen BK113.out 0; have hfz37_1 := blk_frozen BK113.out 1; have hfz37_2 := blk_frozen BK113.out 2) | ((with_reducible refine gate_callee (f := 25) rfl ?_); refine goesL_ (some 12) rfl rfl Tryd.func25 (by kernel_rfl) rfl #[.string a0_0, .string a1_0] rfl (by (try simp only [List.map_toArray, List.map_cons, List.map_nil]); first | done | rfl | (simp only [List.length_drop, List.length_take]; rfl)) ?_; (with_reducible refine (Giv.semantic_compareRedHatComponents.calls a0_0 a1_0 t114 _ A3.out).mono ?_); rintro e w38 ⟨rfl, hb⟩; refine ⟨_, rfl, ?_⟩; have n0_ := Aside0.mk (blk_below (g := gb112) (o := .cells #[.string a0_0, .string a0_1, .string a0_2] 33 (0, 0)) (by (with_reducible repeat (first | refine blk_drewN ?_ _ | refine blk_drew ?_ | refine blk_alloc ?_ _)); exact BK112.out) hb); have n1_ := Aside0.mk (blk_below (g := gb113) (o := .cells #[.string a1_0, .string a1_1, .string a1_2] 33 (0, 0)) (by (with_reducible repeat (first | refine blk_drewN ?_ _ | refine blk_drew ?_ | refine blk_alloc ?_ _)); exact BK113.out) hb); have n2_ := Aside0.mk (below_step (by repeat (first | (with_reducible first | exact HB.out | apply below_alloc | apply pw_below_drewN | apply below_drew1 | refine below_set ?_ GE112.out | refine below_set ?_ GE113.out) | exact HB.out)) hb); clear BK112; clear BK113; clear HB; have BK112 := n0_; have BK113 := n1_; have HB := n2_; clear n0_ n1_ n2_; (try clear hb); (try clear hb2); (try clear hk); (try clear hi); have hcz39_0 : w38.cell? ⟨gb112, 0, none⟩ = some (.string a0_0) := (blk_cell BK112.out 0).trans rfl; have hcz39_1 : w38.cell? ⟨gb112, 1, none⟩ = some (.string a0_1) := (blk_cell BK112.out 1).trans rfl; have hcz39_2 : w38.cell? ⟨gb112, 2, none⟩ = some (.string a0_2) := (blk_cell BK112.out 2).trans rfl; have hfz39_0 := blk_frozen BK112.out 0; have hfz39_1 := blk_frozen BK112.out 1; have hfz39_2 := blk_frozen BK112.out 2; have hcz40_0 : w38.cell? ⟨gb113, 0, none⟩ = some (.string a1_0) := (blk_cell BK113.out 0).trans rfl; have hcz40_1 : w38.cell? ⟨gb113, 1, none⟩ = some (.string a1_1) := (blk_cell BK113.out 1).trans rfl; have hcz40_2 : w38.cell? ⟨gb113, 2, none⟩ = some (.string a1_2) := (blk_cell BK113.out 2).trans rfl; have hfz40_0 := blk_frozen BK113.out 0; have hfz40_1 := blk_frozen BK113.out 1; have hfz40_2 := blk_frozen BK113.out 2) | ((with_reducible refine gate_callee (f := 25) rfl ?_); refine goesL_ (some 20) rfl rfl Tryd.func25 (by kernel_rfl) rfl #[.string a0_1, .string a1_1] rfl (by (try simp only [List.map_toArray, List.map_cons, List.map_nil]); first | done | rfl | (simp only [List.length_drop, List.length_take]; rfl)) ?_; (with_reducible refine (Giv.semantic_compareRedHatComponents.calls a0_1 a1_1 t115 _ A5.out).mono ?_); rintro e w41 ⟨rfl, hb⟩; refine ⟨_, rfl, ?_⟩; have n0_ := Aside0.mk (blk_below (g := gb112) (o := .cells #[.string a0_0, .string a0_1, .string a0_2] 33 (0, 0)) (by (with_reducible repeat (first | refine blk_drewN ?_ _ | refine blk_drew ?_ | refine blk_alloc ?_ _)); exact BK112.out) hb); have n1_ := Aside0.mk (blk_below (g := gb113) (o := .cells #[.string a1_0, .string a1_1, .string a1_2] 33 (0, 0)) (by (with_reducible repeat (first | refine blk_drewN ?_ _ | refine blk_drew ?_ | refine blk_alloc ?_ _)); exact BK113.out) hb); have n2_ := Aside0.mk (below_step (by repeat (first | (with_reducible first | exact HB.out | apply below_alloc | apply pw_below_drewN | apply below_drew1 | refine below_set ?_ GE112.out | refine below_set ?_ GE113.out) | exact HB.out)) hb); clear BK112; clear BK113; clear HB; have BK112 := n0_; have BK113 := n1_; have HB := n2_; clear n0_ n1_ n2_; (try clear hb); (try clear hb2); (try clear hk); (try clear hi)))
      go_ret
      exact ⟨by first | rfl | (simp [errW_none, errW_some] <;> rfl) | (simp [*, errW_none, errW_some] <;> rfl) | (simp [bne_nil_]; done), by repeat (first | (with_reducible first | exact HB.out | apply below_alloc | apply pw_below_drewN | apply below_drew1 | refine below_set ?_ GE112.out | refine below_set ?_ GE113.out) | exact HB.out)⟩
  · rw [if_neg c4] at H
    have c4b0 : (t114 == 0) = false := beq_eq_false_iff_ne.mpr c4
    have c4b1 : (t114 != 0) = true := bne_iff_ne.mpr c4
    obtain rfl := Option.some.inj H
    go_enter Tryd.func16, Tryd.ntmps16
    go_wp2_with (first | ((with_reducible refine gate_dst (N := 2) rfl ?_); refine box_event ?hg (N := 2) ?hd (cs := #[.string a0_0, .string a0_1, .string a0_2]) (t := 33) ?hr ?_; (case hd => rfl); (case hg => rfl); (case hr => first | (go_simp; done) | (go_simp; rfl)); intro gb112 hg w42 hbox hb; have n0_ := Aside0.mk (below_step (by repeat (first | (with_reducible first | exact HB.out | apply below_alloc | apply pw_below_drewN | apply below_drew1) | exact HB.out)) hb); have n1_ := Aside0.mk (hbox); have n2_ := Aside0.mk ((by rw [hg]; exact (below_size (by repeat (first | (with_reducible first | exact HB.out | apply below_alloc | apply pw_below_drewN | apply below_drew1) | exact HB.out))) : w.heap.size ≤ gb112)); have n3_ := Aside0.mk ((by rw [hg]; exact (below_size (by repeat (first | (with_reducible first | exact HB.out | apply below_alloc | apply pw_below_drewN | apply below_drew1) | exact HB.out))) : w.heap.size ≤ gb112)); clear HB; have HB := n0_; have BK112 := n1_; have GW112 := n2_; have GE112 := n3_; clear n0_ n1_ n2_ n3_; clear hb hbox hg) | ((with_reducible refine gate_dst (N := 3) rfl ?_); refine box_event ?hg (N := 3) ?hd (cs := #[.string a1_0, .string a1_1, .string a1_2]) (t := 33) ?hr ?_; (case hd => rfl); (case hg => rfl); (case hr => first | (go_simp; done) | (go_simp; rfl)); intro gb113 hg w43 hbox hb; have n0_ := Aside0.mk (blk_below (g := gb112) (o := .cells #[.string a0_0, .string a0_1, .string a0_2] 33 (0, 0)) (by (with_reducible repeat (first | refine blk_drewN ?_ _ | refine blk_drew ?_ | refine blk_alloc ?_ _)); exact BK112.out) hb); have n1_ := Aside0.mk (below_step (by repeat (first | (with_reducible first | exact HB.out | apply below_alloc | apply pw_below_drewN | apply below_drew1 | refine below_set ?_ GE112.out) | exact HB.out)) hb); have n2_ := Aside0.mk (hbox); have n3_ := Aside0.mk ((by rw [hg]; exact (below_size (by repeat (first | (with_reducible first | exact HB.out | apply below_alloc | apply pw_below_drewN | apply below_drew1 | refine below_set ?_ GE112.out) | exact HB.out))) : w.heap.size ≤ gb113)); have n4_ := Aside0.mk ((by rw [hg]; exact (below_size (by repeat (first | (with_reducible first | exact HB.out | apply below_alloc | apply pw_below_drewN | apply below_drew1 | refine below_set ?_ GE112.out) | exact HB.out))) : w.heap.size ≤ gb113)); have n5_ := Aside0.mk ((by rw [hg]; exact Nat.ne_of_lt (blk_lt (g := gb112) (o := .cells #[.string a0_0, .string a0_1, .string a0_2] 33 (0, 0)) (by (with_reducible repeat (first | refine blk_drewN ?_ _ | refine blk_drew ?_ | refine blk_alloc ?_ _)); exact BK112.out)) : gb112 ≠ gb113)); have n6_ := Aside0.mk ((by rw [hg]; exact Nat.ne_of_gt (blk_lt (g := gb112) (o := .cells #[.string a0_0, .string a0_1, .string a0_2] 33 (0, 0)) (by (with_reducible repeat (first | refine blk_drewN ?_ _ | refine blk_drew ?_ | refine blk_alloc ?_ _)); exact BK112.out)) : gb113 ≠ gb112)); clear BK112; clear HB; have BK112 := n0_; have HB := n1_; have BK113 := n2_; have GW113 := n3_; have GE113 := n4_; have NB112_113 := n5_; have NB113_112 := n6_; clear n0_ n1_ n2_ n3_ n4_ n5_ n6_; clear hb hbox hg; have hnb44 := NB112_113.out; have hnc44 := NB113_112.out; have hcz45_0 : w43.cell? ⟨gb112, 0, none⟩ = some (.string a0_0) := (blk_cell BK112.out 0).trans rfl; have hcz45_1 : w43.cell? ⟨gb112, 1, none⟩ = some (.string a0_1) := (blk_cell BK112.out 1).trans rfl; have hcz45_2 : w43.cell? ⟨gb112, 2, none⟩ = some (.string a0_2) := (blk_cell BK112.out 2).trans rfl; have hfz45_0 := blk_frozen BK112.out 0; have hfz45_1 := blk_frozen BK112.out 1; have hfz45_2 := blk_frozen BK112.out 2; have hcz46_0 : w43.cell? ⟨gb113, 0, none⟩ = some (.string a1_0) := (blk_cell BK113.out 0).trans rfl; have hcz46_1 : w43.cell? ⟨gb113, 1, none⟩ = some (.string a1_1) := (blk_cell BK113.out 1).trans rfl; have hcz46_2 : w43.cell? ⟨gb113, 2, none⟩ = some (.string a1_2) := (blk_cell BK113.out 2).trans rfl; have hfz46_0 := blk_frozen BK113.out 0; have hfz46_1 := blk_frozen BK113.out 1; have hfz46_2 := blk_frozen BK113.out 2) | ((with_reducible refine gate_callee (f := 25) rfl ?_); refine goesL_ (some 12) rfl rfl Tryd.func25 (by kernel_rfl) rfl #[.string a0_0, .string a1_0] rfl (by (try simp only [List.map_toArray, List.map_cons, List.map_nil]); first | done | rfl | (simp only [List.length_drop, List.length_take]; rfl)) ?_; (with_reducible refine (Giv.semantic_compareRedHatComponents.calls a0_0 a1_0 t114 _ A3.out).mono ?_); rintro e w47 ⟨rfl, hb⟩; refine ⟨_, rfl, ?_⟩; have n0_ := Aside0.mk (blk_below (g := gb112) (o := .cells #[.string a0_0, .string a0_1, .string a0_2] 33 (0, 0)) (by (with_reducible repeat (first | refine blk_drewN ?_ _ | refine blk_drew ?_ | refine blk_alloc ?_ _)); exact BK112.out) hb); have n1_ := Aside0.mk (blk_below (g := gb113) (o := .cells #[.string a1_0, .string a1_1, .string a1_2] 33 (0, 0)) (by (with_reducible repeat (first | refine blk_drewN ?_ _ | refine blk_drew ?_ | refine blk_alloc ?_ _)); exact BK113.out) hb); have n2_ := Aside0.mk (below_step (by repeat (first | (with_reducible first | exact HB.out | apply below_alloc | apply pw_below_drewN | apply below_drew1 | refine below_set ?_ GE112.out | refine below_set ?_ GE113.out) | exact HB.out)) hb); clear BK112; clear BK113; clear HB; have BK112 := n0_; have BK113 := n1_; have HB := n2_; clear n0_ n1_ n2_; (try clear hb); (try clear hb2); (try clear hk); (try clear hi)))
    go_ret
    exact ⟨by first | rfl | (simp [errW_none, errW_some] <;> rfl) | (simp [*, errW_none, errW_some] <;> rfl) | (simp [bne_nil_]; done), by repeat (first | (with_reducible first | exact HB.out | apply below_alloc | apply pw_below_drewN | apply below_drew1 | refine below_set ?_ GE112.out | refine below_set ?_ GE113.out) | exact HB.out)⟩

end Go.Proofs.YtehlakaccgccbaaDoor.QD
