-- Written by a working copy of the kit's print program, turned at a few places by wip/tool/mkprint.py. Lean checks it.
import Derived.Test.YtffcbcihnoaikaaDoorQEx0
import Derived.Test.YtffcbcihnoaikaaDoorQEx1
import Derived.Test.YtffcbcihnoaikaaDoorQEx2
namespace Go.Proofs.YtffcbcihnoaikaaDoor.QE
open Go.RowKit Go.Proofs.YtffcbcihnoaikaaDoorW.PrintWords Go.Proofs.YtffcbcihnoaikaaDoorW.PrintLast Go.Proofs.YtffcbcihnoaikaaDoorW.PrintMore
attribute [local go_sem] max2_int min2_int max_two min_two max_three min_three max_four min_four   -- for this text's walks alone
set_option linter.unusedVariables false
set_option linter.unusedSimpArgs false

attribute [local go_sem high] eqA27
/-! ### spec_DebianParse: function 10 -/
def spec_DebianParse.f (k : Nat) (a0 : ByteArray) : Option (Bool × ByteArray × ByteArray × ByteArray × Bool) := (spec_debTrim.f k a0).bind fun t135 => ((spec_indexOf.f k t135 58).bind fun t136 => (if t136 ≥ 0 then (if 0 ≤ t136 then (if t136 ≤ (t135.size : Int) then ((spec_Number.f k (t135.extract 0 (t136 : Int).toNat)).bind fun bt137 => (if bt137.2.2 = true then (if 0 ≤ (wrap64 (t136 + 1)) then (if (wrap64 (t136 + 1)) ≤ (t135.size : Int) then ((spec_lastOf.f k (t135.extract ((wrap64 (t136 + 1)) : Int).toNat t135.size) 45).bind fun t140 => (if t140 ≥ 0 then (if 0 ≤ t140 then (if t140 ≤ ((t135.extract ((wrap64 (t136 + 1)) : Int).toNat t135.size).size : Int) then (if 0 ≤ (wrap64 (t140 + 1)) then (if (wrap64 (t140 + 1)) ≤ ((t135.extract ((wrap64 (t136 + 1)) : Int).toNat t135.size).size : Int) then (some (bt137.1, bt137.2.1, (t135.extract ((wrap64 (t136 + 1)) : Int).toNat t135.size).extract 0 (t140 : Int).toNat, (t135.extract ((wrap64 (t136 + 1)) : Int).toNat t135.size).extract ((wrap64 (t140 + 1)) : Int).toNat (t135.size - ((wrap64 (t136 + 1)) : Int).toNat), true)) else (none)) else (none)) else (none)) else (none)) else (some (bt137.1, bt137.2.1, t135.extract ((wrap64 (t136 + 1)) : Int).toNat t135.size, (⟨#[48]⟩ : ByteArray), true)))) else (none)) else (none)) else (some (false, (⟨#[]⟩ : ByteArray), (⟨#[]⟩ : ByteArray), (⟨#[]⟩ : ByteArray), false)))) else (none)) else (none)) else ((spec_lastOf.f k t135 45).bind fun t141 => (if t141 ≥ 0 then (if 0 ≤ t141 then (if t141 ≤ (t135.size : Int) then (if 0 ≤ (wrap64 (t141 + 1)) then (if (wrap64 (t141 + 1)) ≤ (t135.size : Int) then (some (false, (⟨#[]⟩ : ByteArray), t135.extract 0 (t141 : Int).toNat, t135.extract ((wrap64 (t141 + 1)) : Int).toNat t135.size, true)) else (none)) else (none)) else (none)) else (none)) else (some (false, (⟨#[]⟩ : ByteArray), t135, (⟨#[48]⟩ : ByteArray), true))))))
theorem spec_DebianParse.mono : ∀ a0 k, LeO (spec_DebianParse.f k a0) (spec_DebianParse.f (k + 1) a0) := by
  intro a0 k
  unfold spec_DebianParse.f
  repeat' first
      | (with_reducible exact spec_Number.mono _ _)
      | (with_reducible exact spec_debTrim.mono _ _)
      | (with_reducible exact spec_indexOf.mono _ _ _)
      | (with_reducible exact spec_lastOf.mono _ _ _)
      | (with_reducible exact LeO.refl _)
      | (with_reducible exact LeO.none _)
      | (with_reducible refine LeO.ite ?_ ?_)
      | (with_reducible refine LeO.bind ?_ (fun _ => ?_))
      | exact spec_Number.mono _ _
      | exact spec_debTrim.mono _ _
      | exact spec_indexOf.mono _ _ _
      | exact spec_lastOf.mono _ _ _
      | exact LeO.none _
      | refine LeO.ite ?_ ?_
      | refine LeO.bind ?_ (fun _ => ?_)
def spec_DebianParse.T11 : Bool × List (List Nat × List Nat) := (true, [([], []), ([], []), ([0, 1], [0, 1]), ([], []), ([], []), ([4], [4]), ([3, 5], [3, 5]), ([0, 1, 2], []), ([7, 2, 0, 1, 2], [2, 7]), ([0, 1, 2, 3, 4, 5, 6, 7, 8], []), ([9, 6, 8, 0, 1, 2, 3, 4, 5, 6, 7, 8], [6, 9])])
def spec_DebianParse.B11 : List Nat := [0, 0, 3, 0, 0, 16, 56, 7, 135, 511, 1023]
theorem spec_DebianParse.tab11 : rtab .any (opsOf Tryd.f10 11) = spec_DebianParse.T11 := by kernel_rfl
theorem spec_DebianParse.bits11 : waitsOk spec_DebianParse.T11.2 spec_DebianParse.B11 = true := by kernel_rfl
set_option maxHeartbeats 8000000 in
set_option maxRecDepth 100000 in
theorem spec_DebianParse.calls (k : Nat) (a0 : ByteArray) (r1 : Bool) (r2 : ByteArray) (r3 : ByteArray) (r4 : ByteArray) (r5 : Bool) (w : World) (h : spec_DebianParse.f k a0 = some (r1, r2, r3, r4, r5)) :
    Calls Tryd.prog 10 #[.string a0] w fun e w' => e = .returned (.tuple #[.agg #[.bool r1, .string r2, .string r3, .string r4], .bool r5]) ∧ Below w.heap.size w w' := by
  have hu27 := Tryd.underlying27
  have hu25 := Tryd.underlying25
  have HB := Aside0.mk (Below.refl w.heap.size w)
  have H : ((spec_debTrim.f k a0).bind fun t135 => ((spec_indexOf.f k t135 58).bind fun t136 => (if t136 ≥ 0 then (if 0 ≤ t136 then (if t136 ≤ (t135.size : Int) then ((spec_Number.f k (t135.extract 0 (t136 : Int).toNat)).bind fun bt137 => (if bt137.2.2 = true then (if 0 ≤ (wrap64 (t136 + 1)) then (if (wrap64 (t136 + 1)) ≤ (t135.size : Int) then ((spec_lastOf.f k (t135.extract ((wrap64 (t136 + 1)) : Int).toNat t135.size) 45).bind fun t140 => (if t140 ≥ 0 then (if 0 ≤ t140 then (if t140 ≤ ((t135.extract ((wrap64 (t136 + 1)) : Int).toNat t135.size).size : Int) then (if 0 ≤ (wrap64 (t140 + 1)) then (if (wrap64 (t140 + 1)) ≤ ((t135.extract ((wrap64 (t136 + 1)) : Int).toNat t135.size).size : Int) then (some (bt137.1, bt137.2.1, (t135.extract ((wrap64 (t136 + 1)) : Int).toNat t135.size).extract 0 (t140 : Int).toNat, (t135.extract ((wrap64 (t136 + 1)) : Int).toNat t135.size).extract ((wrap64 (t140 + 1)) : Int).toNat (t135.size - ((wrap64 (t136 + 1)) : Int).toNat), true)) else (none)) else (none)) else (none)) else (none)) else (some (bt137.1, bt137.2.1, t135.extract ((wrap64 (t136 + 1)) : Int).toNat t135.size, (⟨#[48]⟩ : ByteArray), true)))) else (none)) else (none)) else (some (false, (⟨#[]⟩ : ByteArray), (⟨#[]⟩ : ByteArray), (⟨#[]⟩ : ByteArray), false)))) else (none)) else (none)) else ((spec_lastOf.f k t135 45).bind fun t141 => (if t141 ≥ 0 then (if 0 ≤ t141 then (if t141 ≤ (t135.size : Int) then (if 0 ≤ (wrap64 (t141 + 1)) then (if (wrap64 (t141 + 1)) ≤ (t135.size : Int) then (some (false, (⟨#[]⟩ : ByteArray), t135.extract 0 (t141 : Int).toNat, t135.extract ((wrap64 (t141 + 1)) : Int).toNat t135.size, true)) else (none)) else (none)) else (none)) else (none)) else (some (false, (⟨#[]⟩ : ByteArray), t135, (⟨#[48]⟩ : ByteArray), true))))))) = some (r1, r2, r3, r4, r5) := h
  clear h
  replace H := Option.bind_eq_some_iff.mp H
  obtain ⟨t135, A20, H⟩ := H
  replace H : ((spec_indexOf.f k t135 58).bind fun t136 => (if t136 ≥ 0 then (if 0 ≤ t136 then (if t136 ≤ (t135.size : Int) then ((spec_Number.f k (t135.extract 0 (t136 : Int).toNat)).bind fun bt137 => (if bt137.2.2 = true then (if 0 ≤ (wrap64 (t136 + 1)) then (if (wrap64 (t136 + 1)) ≤ (t135.size : Int) then ((spec_lastOf.f k (t135.extract ((wrap64 (t136 + 1)) : Int).toNat t135.size) 45).bind fun t140 => (if t140 ≥ 0 then (if 0 ≤ t140 then (if t140 ≤ ((t135.extract ((wrap64 (t136 + 1)) : Int).toNat t135.size).size : Int) then (if 0 ≤ (wrap64 (t140 + 1)) then (if (wrap64 (t140 + 1)) ≤ ((t135.extract ((wrap64 (t136 + 1)) : Int).toNat t135.size).size : Int) then (some (bt137.1, bt137.2.1, (t135.extract ((wrap64 (t136 + 1)) : Int).toNat t135.size).extract 0 (t140 : Int).toNat, (t135.extract ((wrap64 (t136 + 1)) : Int).toNat t135.size).extract ((wrap64 (t140 + 1)) : Int).toNat (t135.size - ((wrap64 (t136 + 1)) : Int).toNat), true)) else (none)) else (none)) else (none)) else (none)) else (some (bt137.1, bt137.2.1, t135.extract ((wrap64 (t136 + 1)) : Int).toNat t135.size, (⟨#[48]⟩ : ByteArray), true)))) else (none)) else (none)) else (some (false, (⟨#[]⟩ : ByteArray), (⟨#[]⟩ : ByteArray), (⟨#[]⟩ : ByteArray), false)))) else (none)) else (none)) else ((spec_lastOf.f k t135 45).bind fun t141 => (if t141 ≥ 0 then (if 0 ≤ t141 then (if t141 ≤ (t135.size : Int) then (if 0 ≤ (wrap64 (t141 + 1)) then (if (wrap64 (t141 + 1)) ≤ (t135.size : Int) then (some (false, (⟨#[]⟩ : ByteArray), t135.extract 0 (t141 : Int).toNat, t135.extract ((wrap64 (t141 + 1)) : Int).toNat t135.size, true)) else (none)) else (none)) else (none)) else (none)) else (some (false, (⟨#[]⟩ : ByteArray), t135, (⟨#[48]⟩ : ByteArray), true)))))) = some (r1, r2, r3, r4, r5) := H
  have A2 := Aside0.mk A20
  clear A20
  replace H := Option.bind_eq_some_iff.mp H
  obtain ⟨t136, A30, H⟩ := H
  replace H : (if t136 ≥ 0 then (if 0 ≤ t136 then (if t136 ≤ (t135.size : Int) then ((spec_Number.f k (t135.extract 0 (t136 : Int).toNat)).bind fun bt137 => (if bt137.2.2 = true then (if 0 ≤ (wrap64 (t136 + 1)) then (if (wrap64 (t136 + 1)) ≤ (t135.size : Int) then ((spec_lastOf.f k (t135.extract ((wrap64 (t136 + 1)) : Int).toNat t135.size) 45).bind fun t140 => (if t140 ≥ 0 then (if 0 ≤ t140 then (if t140 ≤ ((t135.extract ((wrap64 (t136 + 1)) : Int).toNat t135.size).size : Int) then (if 0 ≤ (wrap64 (t140 + 1)) then (if (wrap64 (t140 + 1)) ≤ ((t135.extract ((wrap64 (t136 + 1)) : Int).toNat t135.size).size : Int) then (some (bt137.1, bt137.2.1, (t135.extract ((wrap64 (t136 + 1)) : Int).toNat t135.size).extract 0 (t140 : Int).toNat, (t135.extract ((wrap64 (t136 + 1)) : Int).toNat t135.size).extract ((wrap64 (t140 + 1)) : Int).toNat (t135.size - ((wrap64 (t136 + 1)) : Int).toNat), true)) else (none)) else (none)) else (none)) else (none)) else (some (bt137.1, bt137.2.1, t135.extract ((wrap64 (t136 + 1)) : Int).toNat t135.size, (⟨#[48]⟩ : ByteArray), true)))) else (none)) else (none)) else (some (false, (⟨#[]⟩ : ByteArray), (⟨#[]⟩ : ByteArray), (⟨#[]⟩ : ByteArray), false)))) else (none)) else (none)) else ((spec_lastOf.f k t135 45).bind fun t141 => (if t141 ≥ 0 then (if 0 ≤ t141 then (if t141 ≤ (t135.size : Int) then (if 0 ≤ (wrap64 (t141 + 1)) then (if (wrap64 (t141 + 1)) ≤ (t135.size : Int) then (some (false, (⟨#[]⟩ : ByteArray), t135.extract 0 (t141 : Int).toNat, t135.extract ((wrap64 (t141 + 1)) : Int).toNat t135.size, true)) else (none)) else (none)) else (none)) else (none)) else (some (false, (⟨#[]⟩ : ByteArray), t135, (⟨#[48]⟩ : ByteArray), true))))) = some (r1, r2, r3, r4, r5) := H
  have A3 := Aside0.mk A30
  clear A30
  by_cases c4 : t136 ≥ 0
  · rw [if_pos c4] at H
    have c4b0 : decide (0 ≤ t136) = true := decide_eq_true c4
    clear c4
    by_cases c5 : 0 ≤ t136
    · rw [if_pos c5] at H
      have c5b0 := eq_true c5
      have c5b1 : decide (0 ≤ t136) = true := decide_eq_true c5
      clear c5
      by_cases c6 : t136 ≤ (t135.size : Int)
      · rw [if_pos c6] at H
        have c6b0 := eq_true c6
        have c6b1 : decide (t136 ≤ (t135.size : Int)) = true := decide_eq_true c6
        clear c6
        replace H := Option.bind_eq_some_iff.mp H
        obtain ⟨⟨t137, t138, t139⟩, A70, H⟩ := H
        replace H : (if t139 = true then (if 0 ≤ (wrap64 (t136 + 1)) then (if (wrap64 (t136 + 1)) ≤ (t135.size : Int) then ((spec_lastOf.f k (t135.extract ((wrap64 (t136 + 1)) : Int).toNat t135.size) 45).bind fun t140 => (if t140 ≥ 0 then (if 0 ≤ t140 then (if t140 ≤ ((t135.extract ((wrap64 (t136 + 1)) : Int).toNat t135.size).size : Int) then (if 0 ≤ (wrap64 (t140 + 1)) then (if (wrap64 (t140 + 1)) ≤ ((t135.extract ((wrap64 (t136 + 1)) : Int).toNat t135.size).size : Int) then (some (t137, t138, (t135.extract ((wrap64 (t136 + 1)) : Int).toNat t135.size).extract 0 (t140 : Int).toNat, (t135.extract ((wrap64 (t136 + 1)) : Int).toNat t135.size).extract ((wrap64 (t140 + 1)) : Int).toNat (t135.size - ((wrap64 (t136 + 1)) : Int).toNat), true)) else (none)) else (none)) else (none)) else (none)) else (some (t137, t138, t135.extract ((wrap64 (t136 + 1)) : Int).toNat t135.size, (⟨#[48]⟩ : ByteArray), true)))) else (none)) else (none)) else (some (false, (⟨#[]⟩ : ByteArray), (⟨#[]⟩ : ByteArray), (⟨#[]⟩ : ByteArray), false))) = some (r1, r2, r3, r4, r5) := H
        have A7 := Aside0.mk A70
        clear A70
        by_cases c8 : t139 = true
        · subst c8
          have H1 : (if 0 ≤ (wrap64 (t136 + 1)) then (if (wrap64 (t136 + 1)) ≤ (t135.size : Int) then ((spec_lastOf.f k (t135.extract ((wrap64 (t136 + 1)) : Int).toNat t135.size) 45).bind fun t140 => (if t140 ≥ 0 then (if 0 ≤ t140 then (if t140 ≤ ((t135.extract ((wrap64 (t136 + 1)) : Int).toNat t135.size).size : Int) then (if 0 ≤ (wrap64 (t140 + 1)) then (if (wrap64 (t140 + 1)) ≤ ((t135.extract ((wrap64 (t136 + 1)) : Int).toNat t135.size).size : Int) then (some (t137, t138, (t135.extract ((wrap64 (t136 + 1)) : Int).toNat t135.size).extract 0 (t140 : Int).toNat, (t135.extract ((wrap64 (t136 + 1)) : Int).toNat t135.size).extract ((wrap64 (t140 + 1)) : Int).toNat (t135.size - ((wrap64 (t136 + 1)) : Int).toNat), true)) else (none)) else (none)) else (none)) else (none)) else (some (t137, t138, t135.extract ((wrap64 (t136 + 1)) : Int).toNat t135.size, (⟨#[48]⟩ : ByteArray), true)))) else (none)) else (none)) = some (r1, r2, r3, r4, r5) := by rw [if_pos rfl] at H; exact H
          clear H
          have H := H1
          clear H1
          obtain ⟨ji9, hji9⟩ : ∃ j_ : Int, (wrap64 (t136 + 1)) = j_ := ⟨_, rfl⟩
          replace H : (if 0 ≤ (ji9) then (if (ji9) ≤ (t135.size : Int) then ((spec_lastOf.f k (t135.extract ((ji9) : Int).toNat t135.size) 45).bind fun t140 => (if t140 ≥ 0 then (if 0 ≤ t140 then (if t140 ≤ ((t135.extract ((ji9) : Int).toNat t135.size).size : Int) then (if 0 ≤ (wrap64 (t140 + 1)) then (if (wrap64 (t140 + 1)) ≤ ((t135.extract ((ji9) : Int).toNat t135.size).size : Int) then (some (t137, t138, (t135.extract ((ji9) : Int).toNat t135.size).extract 0 (t140 : Int).toNat, (t135.extract ((ji9) : Int).toNat t135.size).extract ((wrap64 (t140 + 1)) : Int).toNat (t135.size - ((ji9) : Int).toNat), true)) else (none)) else (none)) else (none)) else (none)) else (some (t137, t138, t135.extract ((ji9) : Int).toNat t135.size, (⟨#[48]⟩ : ByteArray), true)))) else (none)) else (none)) = some (r1, r2, r3, r4, r5) := by first | (rw [hji9] at H; exact H) | (simp only [hji9] at H ⊢; exact H)
          (try rw [hji9] at A2)
          (try rw [hji9] at A3)
          (try rw [hji9] at A7)
          have hji9w : (IntKind.i64.wrap (t136 + 1)) = ji9 := (i64_w _).trans hji9
          by_cases c10 : 0 ≤ (ji9)
          · rw [if_pos c10] at H
            have c10b0 := eq_true c10
            have c10b1 : decide (0 ≤ (ji9)) = true := decide_eq_true c10
            clear c10
            by_cases c11 : (ji9) ≤ (t135.size : Int)
            · rw [if_pos c11] at H
              have c11b0 := eq_true c11
              have c11b1 : decide ((ji9) ≤ (t135.size : Int)) = true := decide_eq_true c11
              clear c11
              replace H := Option.bind_eq_some_iff.mp H
              obtain ⟨t140, A120, H⟩ := H
              replace H : (if t140 ≥ 0 then (if 0 ≤ t140 then (if t140 ≤ ((t135.extract ((ji9) : Int).toNat t135.size).size : Int) then (if 0 ≤ (wrap64 (t140 + 1)) then (if (wrap64 (t140 + 1)) ≤ ((t135.extract ((ji9) : Int).toNat t135.size).size : Int) then (some (t137, t138, (t135.extract ((ji9) : Int).toNat t135.size).extract 0 (t140 : Int).toNat, (t135.extract ((ji9) : Int).toNat t135.size).extract ((wrap64 (t140 + 1)) : Int).toNat (t135.size - ((ji9) : Int).toNat), true)) else (none)) else (none)) else (none)) else (none)) else (some (t137, t138, t135.extract ((ji9) : Int).toNat t135.size, (⟨#[48]⟩ : ByteArray), true))) = some (r1, r2, r3, r4, r5) := H
              have A12 := Aside0.mk A120
              clear A120
              by_cases c13 : t140 ≥ 0
              · rw [if_pos c13] at H
                have c13b0 : decide (0 ≤ t140) = true := decide_eq_true c13
                clear c13
                by_cases c14 : 0 ≤ t140
                · rw [if_pos c14] at H
                  have c14b0 := eq_true c14
                  have c14b1 : decide (0 ≤ t140) = true := decide_eq_true c14
                  clear c14
                  by_cases c15 : t140 ≤ ((t135.extract ((ji9) : Int).toNat t135.size).size : Int)
                  · rw [if_pos c15] at H
                    have c15b0 := eq_true c15
                    have c15b1 : decide (t140 ≤ ((t135.extract ((ji9) : Int).toNat t135.size).size : Int)) = true := decide_eq_true c15
                    (try (have c15bz := c15; simp only [ByteArray.size_extract, Nat.min_self] at c15bz; replace c15bz := eq_true c15bz))
                    clear c15
                    obtain ⟨ji16, hji16⟩ : ∃ j_ : Int, (wrap64 (t140 + 1)) = j_ := ⟨_, rfl⟩
                    replace H : (if 0 ≤ (ji16) then (if (ji16) ≤ ((t135.extract ((ji9) : Int).toNat t135.size).size : Int) then (some (t137, t138, (t135.extract ((ji9) : Int).toNat t135.size).extract 0 (t140 : Int).toNat, (t135.extract ((ji9) : Int).toNat t135.size).extract ((ji16) : Int).toNat (t135.size - ((ji9) : Int).toNat), true)) else (none)) else (none)) = some (r1, r2, r3, r4, r5) := by first | (rw [hji16] at H; exact H) | (simp only [hji16] at H ⊢; exact H)
                    (try rw [hji16] at A2)
                    (try rw [hji16] at A3)
                    (try rw [hji16] at A7)
                    (try rw [hji16] at A12)
                    have hji16w : (IntKind.i64.wrap (t140 + 1)) = ji16 := (i64_w _).trans hji16
                    by_cases c17 : 0 ≤ (ji16)
                    · rw [if_pos c17] at H
                      have c17b0 := eq_true c17
                      have c17b1 : decide (0 ≤ (ji16)) = true := decide_eq_true c17
                      clear c17
                      by_cases c18 : (ji16) ≤ ((t135.extract ((ji9) : Int).toNat t135.size).size : Int)
                      · rw [if_pos c18] at H
                        have c18b0 := eq_true c18
                        have c18b1 : decide ((ji16) ≤ ((t135.extract ((ji9) : Int).toNat t135.size).size : Int)) = true := decide_eq_true c18
                        (try (have c18bz := c18; simp only [ByteArray.size_extract, Nat.min_self] at c18bz; replace c18bz := eq_true c18bz))
                        clear c18
                        simp only [Option.some.injEq, Prod.mk.injEq] at H
                        obtain ⟨rfl, rfl, rfl, rfl, rfl⟩ := H
                        go_enter Tryd.func10, Tryd.ntmps10
                        try go_wp2_with (first | ((with_reducible refine gate_dst (N := 2) rfl ?_); refine box_event ?hg (N := 2) ?hd (cs := #[.bool false, .string (⟨#[]⟩ : ByteArray), .string (⟨#[]⟩ : ByteArray), .string (⟨#[]⟩ : ByteArray)]) (t := 27) ?hr ?_; (case hd => rfl); (case hg => rfl); (case hr => first | (go_simp; done) | (go_simp; rfl)); intro gb134 hg w19 hbox hb; have n0_ := Aside0.mk (below_step (by repeat (first | (with_reducible first | exact HB.out | apply below_alloc | apply pw_below_drewN | apply below_drew1) | exact HB.out)) hb); have n1_ := Aside0.mk (hbox); have n2_ := Aside0.mk ((by rw [hg]; exact (below_size (by repeat (first | (with_reducible first | exact HB.out | apply below_alloc | apply pw_below_drewN | apply below_drew1) | exact HB.out))) : w.heap.size ≤ gb134)); have n3_ := Aside0.mk ((by rw [hg]; exact (below_size (by repeat (first | (with_reducible first | exact HB.out | apply below_alloc | apply pw_below_drewN | apply below_drew1) | exact HB.out))) : w.heap.size ≤ gb134)); clear HB; have HB := n0_; have BK134 := n1_; have GW134 := n2_; have GE134 := n3_; clear n0_ n1_ n2_ n3_; clear hb hbox hg) | ((with_reducible refine gate_callee (f := 16) rfl ?_); refine goesL_ (some 7) rfl rfl Tryd.func16 (by kernel_rfl) rfl #[.string a0] rfl (by (try simp only [List.map_toArray, List.map_cons, List.map_nil]); first | done | rfl | (simp only [List.length_drop, List.length_take]; rfl)) ?_; (with_reducible refine (spec_debTrim.calls k a0 t135 _ A2.out).mono ?_); rintro e w' ⟨rfl, ⟨nd, rfl⟩⟩; refine ⟨_, rfl, ?_⟩; (try (rw [drewN_self w19]; generalize hq_ : World.drewN w19 _ = w19; have n0_ : Aside0 (w19.heap[gb134]? = some (.cells #[.bool false, .string (⟨#[]⟩ : ByteArray), .string (⟨#[]⟩ : ByteArray), .string (⟨#[]⟩ : ByteArray)] 27 (0, 0))) := ⟨by rw [← hq_]; exact (by (with_reducible repeat (first | refine blk_drewN ?_ _ | refine blk_drew ?_ | refine blk_alloc ?_ _)); exact BK134.out)⟩; have n1_ : Aside0 (Below w.heap.size w w19) := ⟨by rw [← hq_]; exact (by repeat (first | (with_reducible first | exact HB.out | apply below_alloc | apply pw_below_drewN | apply below_drew1 | refine below_set ?_ GE134.out) | exact HB.out))⟩; clear BK134 HB hq_; have BK134 := n0_; have HB := n1_; clear n0_ n1_))) | ((with_reducible refine gate_callee (f := 17) rfl ?_); refine goesL_ (some 9) rfl rfl Tryd.func17 (by kernel_rfl) rfl #[.string t135, .int .u8 58] rfl (by (try simp only [List.map_toArray, List.map_cons, List.map_nil]); first | done | rfl | (simp only [List.length_drop, List.length_take]; rfl)) ?_; (with_reducible refine (spec_indexOf.calls k t135 58 t136 _ A3.out).mono ?_); rintro e w' ⟨rfl, ⟨nd, rfl⟩⟩; refine ⟨_, rfl, ?_⟩; (try (rw [drewN_self w19]; generalize hq_ : World.drewN w19 _ = w19; have n0_ : Aside0 (w19.heap[gb134]? = some (.cells #[.bool false, .string (⟨#[]⟩ : ByteArray), .string (⟨#[]⟩ : ByteArray), .string (⟨#[]⟩ : ByteArray)] 27 (0, 0))) := ⟨by rw [← hq_]; exact (by (with_reducible repeat (first | refine blk_drewN ?_ _ | refine blk_drew ?_ | refine blk_alloc ?_ _)); exact BK134.out)⟩; have n1_ : Aside0 (Below w.heap.size w w19) := ⟨by rw [← hq_]; exact (by repeat (first | (with_reducible first | exact HB.out | apply below_alloc | apply pw_below_drewN | apply below_drew1 | refine below_set ?_ GE134.out) | exact HB.out))⟩; clear BK134 HB hq_; have BK134 := n0_; have HB := n1_; clear n0_ n1_))) | ((with_reducible refine gate_callee (f := 21) rfl ?_); refine goesL_ (some 16) rfl rfl Tryd.func21 (by kernel_rfl) rfl #[.string (t135.extract 0 (t136 : Int).toNat)] rfl (by (try simp only [List.map_toArray, List.map_cons, List.map_nil]); first | done | rfl | (simp only [List.length_drop, List.length_take]; rfl)) ?_; (with_reducible refine (spec_Number.calls k (t135.extract 0 (t136 : Int).toNat) t137 t138 true _ A7.out).mono ?_); rintro e w20 ⟨rfl, hb⟩; refine ⟨_, rfl, ?_⟩; have n0_ := Aside0.mk (blk_below (g := gb134) (o := .cells #[.bool false, .string (⟨#[]⟩ : ByteArray), .string (⟨#[]⟩ : ByteArray), .string (⟨#[]⟩ : ByteArray)] 27 (0, 0)) (by (with_reducible repeat (first | refine blk_drewN ?_ _ | refine blk_drew ?_ | refine blk_alloc ?_ _)); exact BK134.out) hb); have n1_ := Aside0.mk (below_step (by repeat (first | (with_reducible first | exact HB.out | apply below_alloc | apply pw_below_drewN | apply below_drew1 | refine below_set ?_ GE134.out) | exact HB.out)) hb); clear BK134; clear HB; have BK134 := n0_; have HB := n1_; clear n0_ n1_; (try clear hb); (try clear hb2); (try clear hk); (try clear hi); have hcz21_0 : w20.cell? ⟨gb134, 0, none⟩ = some (.bool false) := (blk_cell BK134.out 0).trans rfl; have hcz21_1 : w20.cell? ⟨gb134, 1, none⟩ = some (.string (⟨#[]⟩ : ByteArray)) := (blk_cell BK134.out 1).trans rfl; have hcz21_2 : w20.cell? ⟨gb134, 2, none⟩ = some (.string (⟨#[]⟩ : ByteArray)) := (blk_cell BK134.out 2).trans rfl; have hcz21_3 : w20.cell? ⟨gb134, 3, none⟩ = some (.string (⟨#[]⟩ : ByteArray)) := (blk_cell BK134.out 3).trans rfl; have hfz21_0 := blk_frozen BK134.out 0; have hfz21_1 := blk_frozen BK134.out 1; have hfz21_2 := blk_frozen BK134.out 2; have hfz21_3 := blk_frozen BK134.out 3) | ((with_reducible refine gate_callee (f := 22) rfl ?_); refine goesL_ (some 31) rfl rfl Tryd.func22 (by kernel_rfl) rfl #[.string (t135.extract ((ji9) : Int).toNat t135.size), .int .u8 45] rfl (by (try simp only [List.map_toArray, List.map_cons, List.map_nil]); first | done | (simp only [hji9]; rfl) | rfl | (simp only [List.length_drop, List.length_take]; rfl)) ?_; (with_reducible refine (spec_lastOf.calls k (t135.extract ((ji9) : Int).toNat t135.size) 45 t140 _ A12.out).mono ?_); rintro e w' ⟨rfl, ⟨nd, rfl⟩⟩; refine ⟨_, rfl, ?_⟩))
                        have n0_ : Aside0 (((((w20.setCell ⟨gb134, 0, none⟩ (.bool t137)).setCell ⟨gb134, 1, none⟩ (.string t138)).setCell ⟨gb134, 2, none⟩ (.string (t135.extract ((ji9) : Int).toNat t135.size))).setCell ⟨gb134, 3, none⟩ (.string (⟨#[48]⟩ : ByteArray))).heap[gb134]? = some (.cells #[.bool t137, .string t138, .string (t135.extract ((ji9) : Int).toNat t135.size), .string (⟨#[48]⟩ : ByteArray)] 27 (0, 0))) := ⟨by (with_reducible repeat (first | refine blk_drewN ?_ _ | refine blk_drew ?_ | refine blk_alloc ?_ _)); refine blk_put (cs := #[.bool t137, .string t138, .string (t135.extract ((ji9) : Int).toNat t135.size), .string (⟨#[]⟩ : ByteArray)]) ?_ 3 _ rfl; (with_reducible repeat (first | refine blk_drewN ?_ _ | refine blk_drew ?_ | refine blk_alloc ?_ _)); refine blk_put (cs := #[.bool t137, .string t138, .string (⟨#[]⟩ : ByteArray), .string (⟨#[]⟩ : ByteArray)]) ?_ 2 _ rfl; (with_reducible repeat (first | refine blk_drewN ?_ _ | refine blk_drew ?_ | refine blk_alloc ?_ _)); refine blk_put (cs := #[.bool t137, .string (⟨#[]⟩ : ByteArray), .string (⟨#[]⟩ : ByteArray), .string (⟨#[]⟩ : ByteArray)]) ?_ 1 _ rfl; (with_reducible repeat (first | refine blk_drewN ?_ _ | refine blk_drew ?_ | refine blk_alloc ?_ _)); refine blk_put (cs := #[.bool false, .string (⟨#[]⟩ : ByteArray), .string (⟨#[]⟩ : ByteArray), .string (⟨#[]⟩ : ByteArray)]) ?_ 0 _ rfl; (with_reducible repeat (first | refine blk_drewN ?_ _ | refine blk_drew ?_ | refine blk_alloc ?_ _)); exact BK134.out⟩
                        have n1_ : Aside0 (Below w.heap.size w ((((w20.setCell ⟨gb134, 0, none⟩ (.bool t137)).setCell ⟨gb134, 1, none⟩ (.string t138)).setCell ⟨gb134, 2, none⟩ (.string (t135.extract ((ji9) : Int).toNat t135.size))).setCell ⟨gb134, 3, none⟩ (.string (⟨#[48]⟩ : ByteArray)))) := ⟨by repeat (first | (with_reducible first | exact HB.out | apply below_alloc | apply pw_below_drewN | apply below_drew1 | refine below_set ?_ GE134.out) | exact HB.out)⟩
                        (try clear BK134)
                        (try clear HB)
                        generalize ((((w20.setCell ⟨gb134, 0, none⟩ (.bool t137)).setCell ⟨gb134, 1, none⟩ (.string t138)).setCell ⟨gb134, 2, none⟩ (.string (t135.extract ((ji9) : Int).toNat t135.size))).setCell ⟨gb134, 3, none⟩ (.string (⟨#[48]⟩ : ByteArray))) = w22 at n0_ n1_ ⊢
                        have BK134 := n0_
                        have HB := n1_
                        clear n0_ n1_
                        (try (rw [drewN_self w22]; generalize hq_ : World.drewN w22 _ = w22; have n0_ : Aside0 (w22.heap[gb134]? = some (.cells #[.bool t137, .string t138, .string (t135.extract ((ji9) : Int).toNat t135.size), .string (⟨#[48]⟩ : ByteArray)] 27 (0, 0))) := ⟨by rw [← hq_]; exact (by (with_reducible repeat (first | refine blk_drewN ?_ _ | refine blk_drew ?_ | refine blk_alloc ?_ _)); exact BK134.out)⟩; have n1_ : Aside0 (Below w.heap.size w w22) := ⟨by rw [← hq_]; exact (by repeat (first | (with_reducible first | exact HB.out | apply below_alloc | apply pw_below_drewN | apply below_drew1 | refine below_set ?_ GE134.out) | exact HB.out))⟩; clear BK134 HB hq_; have BK134 := n0_; have HB := n1_; clear n0_ n1_))
                        have n0_ := Aside0.mk (blk_drew BK134.out)
                        have n1_ := Aside0.mk (below_drew1 HB.out)
                        clear BK134
                        clear HB
                        have BK134 := n0_
                        have HB := n1_
                        clear n0_ n1_
                        refine start_ (n := 11) (S := fun w' => True) (ds := []) #[false, false, false, false, false, false, false, false, false, false, false] (by kernel_rfl) rfl rfl trivial (fun hHeld => ?_); refine with_tabW spec_DebianParse.tab11 spec_DebianParse.bits11 (fun HT_ HW_ => ?_)
                        generalize w22.drew = w23 at BK134 HB hHeld ⊢
                        refine pure_ (i := 0) (N := some 34) (v := ?_) (a' := ?_) #[true, false, false, false, false, false, false, false, false, false, false] rfl rfl (any_of HT_.out (by kernel_rfl)) (fun _ _ _ h => h) (Or.inl ⟨by rfl, ?_⟩) ?_ ?_
                        rotate_left
                        · intro w'
                          go_simp
                          with_reducible rfl
                        rotate_left
                        · simp only [Act.put, List.setIfInBounds_toArray, List.set_cons_zero, List.set_cons_succ, i64_w, i32_w]
                          rfl
                        refine pure_ (i := 1) (N := some 35) (v := ?_) (a' := ?_) #[true, true, false, false, false, false, false, false, false, false, false] rfl rfl (any_of HT_.out (by kernel_rfl)) (fun _ _ _ h => h) (Or.inl ⟨by rfl, ?_⟩) ?_ ?_
                        rotate_left
                        · intro w'
                          go_simp
                          with_reducible rfl
                        rotate_left
                        · simp only [Act.put, List.setIfInBounds_toArray, List.set_cons_zero, List.set_cons_succ, i64_w, i32_w]
                          rfl
                        refine pure_ (i := 2) (N := some 36) (v := ?_) (a' := ?_) #[true, true, true, false, false, false, false, false, false, false, false] rfl rfl (any_of HT_.out (by kernel_rfl)) (fun _ _ _ h => h) (Or.inl ⟨by rfl, ?_⟩) ?_ ?_
                        rotate_left
                        · intro w'
                          go_simp
                          with_reducible rfl
                        rotate_left
                        · simp only [Act.put, List.setIfInBounds_toArray, List.set_cons_zero, List.set_cons_succ, i64_w, i32_w]
                          rfl
                        refine pure_ (i := 3) (N := some 37) (v := ?_) (a' := ?_) #[true, true, true, true, false, false, false, false, false, false, false] rfl rfl (any_of HT_.out (by kernel_rfl)) (fun _ _ _ h => h) (Or.inl ⟨by rfl, ?_⟩) ?_ ?_
                        rotate_left
                        · intro w'
                          go_simp
                          with_reducible rfl
                        rotate_left
                        · simp only [Act.put, List.setIfInBounds_toArray, List.set_cons_zero, List.set_cons_succ, i64_w, i32_w]
                          rfl
                        refine pure_ (i := 4) (N := some 38) (v := ?_) (a' := ?_) #[true, true, true, true, true, false, false, false, false, false, false] rfl rfl (any_of HT_.out (by kernel_rfl)) (fun _ _ _ h => h) (Or.inl ⟨by rfl, ?_⟩) ?_ ?_
                        rotate_left
                        · intro w'
                          go_simp
                          with_reducible rfl
                        rotate_left
                        · simp only [Act.put, List.setIfInBounds_toArray, List.set_cons_zero, List.set_cons_succ, i64_w, i32_w]
                          rfl
                        refine pure_ (i := 5) (N := some 39) (v := ?_) (a' := ?_) #[true, true, true, true, true, true, false, false, false, false, false] rfl rfl (any_of HT_.out (by kernel_rfl)) (fun _ _ _ h => h) (Or.inl ⟨by rfl, ?_⟩) ?_ ?_
                        rotate_left
                        · intro w'
                          go_simp
                          with_reducible rfl
                        rotate_left
                        · simp only [Act.put, List.setIfInBounds_toArray, List.set_cons_zero, List.set_cons_succ, i64_w, i32_w]
                          rfl
                        refine pure_ (i := 6) (N := some 40) (v := ?_) (a' := ?_) #[true, true, true, true, true, true, true, false, false, false, false] rfl rfl (any_of HT_.out (by kernel_rfl)) (fun _ _ _ h => h) (Or.inl ⟨by rfl, ?_⟩) ?_ ?_
                        rotate_left
                        · intro w'
                          go_simp
                          with_reducible rfl
                        rotate_left
                        · simp only [Act.put, List.setIfInBounds_toArray, List.set_cons_zero, List.set_cons_succ, i64_w, i32_w]
                          rfl
                        refine pure_ (i := 7) (N := some 41) (v := ?_) (a' := ?_) #[true, true, true, true, true, true, true, true, false, false, false] rfl rfl (any_of HT_.out (by kernel_rfl)) (fun _ _ _ h => h) (Or.inl ⟨by rfl, ?_⟩) ?_ ?_
                        rotate_left
                        · intro w'
                          go_simp
                          with_reducible rfl
                        rotate_left
                        · simp only [Act.put, List.setIfInBounds_toArray, List.set_cons_zero, List.set_cons_succ, i64_w, i32_w]
                          rfl
                        refine one_ (i := 8) (N := none) #[true, true, true, true, true, true, true, true, true, false, false] rfl rfl (one_of HT_.out (by kernel_rfl)) (by decide) (fun K hK => ?_)
                        have hs24 : w23.cell? ⟨gb134, 2, none⟩ = some (.string (t135.extract ((ji9) : Int).toNat t135.size)) := (blk_cell BK134.out 2).trans rfl
                        have hfs24 := blk_frozen BK134.out 2
                        refine skip_ (w1 := ?_) (by rfl) rfl ?_ ?_
                        rotate_left
                        · go_simp
                          rfl
                        refine hK.out _ _ trivial (fun hHeld => ?_)
                        clear hK K
                        refine pure_ (i := 9) (N := some 42) (v := ?_) (a' := ?_) #[true, true, true, true, true, true, true, true, true, true, false] rfl rfl (any_of HT_.out (by kernel_rfl)) (fun _ _ _ h => h) (Or.inl ⟨by rfl, ?_⟩) ?_ ?_
                        rotate_left
                        · intro w'
                          go_simp
                          with_reducible rfl
                        rotate_left
                        · simp only [Act.put, List.setIfInBounds_toArray, List.set_cons_zero, List.set_cons_succ, i64_w, i32_w]
                          rfl
                        refine one_ (i := 10) (N := none) #[true, true, true, true, true, true, true, true, true, true, true] rfl rfl (one_of HT_.out (by kernel_rfl)) (by decide) (fun K hK => ?_)
                        have hs25 : w23.cell? ⟨gb134, 3, none⟩ = some (.string (⟨#[48]⟩ : ByteArray)) := (blk_cell BK134.out 3).trans rfl
                        have hfs25 := blk_frozen BK134.out 3
                        refine skip_ (w1 := ?_) (by rfl) rfl ?_ ?_
                        rotate_left
                        · go_simp
                          rfl
                        refine hK.out _ _ trivial (fun hHeld => ?_)
                        clear hK K
                        refine done_ (done_of HT_.out (by kernel_rfl)) ?_
                        have hcz26_0 : w23.cell? ⟨gb134, 0, none⟩ = some (.bool t137) := (blk_cell BK134.out 0).trans rfl
                        have hcz26_1 : w23.cell? ⟨gb134, 1, none⟩ = some (.string t138) := (blk_cell BK134.out 1).trans rfl
                        have hcz26_2 : w23.cell? ⟨gb134, 2, none⟩ = some (.string (t135.extract ((ji9) : Int).toNat t135.size)) := (blk_cell BK134.out 2).trans rfl
                        have hcz26_3 : w23.cell? ⟨gb134, 3, none⟩ = some (.string (⟨#[48]⟩ : ByteArray)) := (blk_cell BK134.out 3).trans rfl
                        have hfz26_0 := blk_frozen BK134.out 0
                        have hfz26_1 := blk_frozen BK134.out 1
                        have hfz26_2 := blk_frozen BK134.out 2
                        have hfz26_3 := blk_frozen BK134.out 3
                        try go_wp2
                        refine bodyPost_ret (results_ct rfl _ _ gb134 27 #[.bool t137, .string t138, .string ((t135.extract ((ji9) : Int).toNat t135.size).extract 0 (t140 : Int).toNat), .string ((t135.extract ((ji9) : Int).toNat t135.size).extract ((ji16) : Int).toNat (t135.size - ((ji9) : Int).toNat))] (0, 0) _ rfl (by (with_reducible repeat (first | refine blk_drewN ?_ _ | refine blk_drew ?_ | refine blk_alloc ?_ _)); refine blk_put (cs := #[.bool t137, .string t138, .string ((t135.extract ((ji9) : Int).toNat t135.size).extract 0 (t140 : Int).toNat), .string ((t135.extract ((ji9) : Int).toNat t135.size).extract ((ji16) : Int).toNat (t135.size - ((ji9) : Int).toNat))]) ?_ 3 _ rfl; (with_reducible repeat (first | refine blk_drewN ?_ _ | refine blk_drew ?_ | refine blk_alloc ?_ _)); refine blk_put (cs := #[.bool t137, .string t138, .string ((t135.extract ((ji9) : Int).toNat t135.size).extract 0 (t140 : Int).toNat), .string ((t135.extract ((ji9) : Int).toNat t135.size).extract ((ji16) : Int).toNat (t135.size - ((ji9) : Int).toNat))]) ?_ 2 _ rfl; (with_reducible repeat (first | refine blk_drewN ?_ _ | refine blk_drew ?_ | refine blk_alloc ?_ _)); refine blk_put (cs := #[.bool t137, .string t138, .string ((t135.extract ((ji9) : Int).toNat t135.size).extract 0 (t140 : Int).toNat), .string ((t135.extract ((ji9) : Int).toNat t135.size).extract ((ji16) : Int).toNat (t135.size - ((ji9) : Int).toNat))]) ?_ 1 _ rfl; (with_reducible repeat (first | refine blk_drewN ?_ _ | refine blk_drew ?_ | refine blk_alloc ?_ _)); refine blk_put (cs := #[.bool t137, .string t138, .string ((t135.extract ((ji9) : Int).toNat t135.size).extract 0 (t140 : Int).toNat), .string ((t135.extract ((ji9) : Int).toNat t135.size).extract ((ji16) : Int).toNat (t135.size - ((ji9) : Int).toNat))]) ?_ 0 _ rfl; (with_reducible repeat (first | refine blk_drewN ?_ _ | refine blk_drew ?_ | refine blk_alloc ?_ _)); refine blk_put (cs := #[.bool t137, .string t138, .string ((t135.extract ((ji9) : Int).toNat t135.size).extract 0 (t140 : Int).toNat), .string (⟨#[48]⟩ : ByteArray)]) ?_ 3 _ rfl; (with_reducible repeat (first | refine blk_drewN ?_ _ | refine blk_drew ?_ | refine blk_alloc ?_ _)); refine blk_put (cs := #[.bool t137, .string t138, .string (t135.extract ((ji9) : Int).toNat t135.size), .string (⟨#[48]⟩ : ByteArray)]) ?_ 2 _ rfl; (with_reducible repeat (first | refine blk_drewN ?_ _ | refine blk_drew ?_ | refine blk_alloc ?_ _)); exact BK134.out) Tryd.underlying27 rfl (by kernel_rfl)) rfl ?_
                        exact ⟨by first | rfl | (simp [errW_none, errW_some] <;> rfl) | (simp only [← hji9, ← hji16]; first | rfl | (simp [errW_none, errW_some] <;> rfl)) | (simp [*, errW_none, errW_some] <;> rfl) | (simp [bne_nil_]; done), by repeat (first | (with_reducible first | exact HB.out | apply below_alloc | apply pw_below_drewN | apply below_drew1 | refine below_set ?_ GE134.out) | exact HB.out)⟩
                      · rw [if_neg c18] at H
                        exact absurd H (by simp)
                    · rw [if_neg c17] at H
                      exact absurd H (by simp)
                  · rw [if_neg c15] at H
                    exact absurd H (by simp)
                · rw [if_neg c14] at H
                  exact absurd H (by simp)
              · rw [if_neg c13] at H
                have c13b0 : decide (0 ≤ t140) = false := decide_eq_false c13
                clear c13
                simp only [Option.some.injEq, Prod.mk.injEq] at H
                obtain ⟨rfl, rfl, rfl, rfl, rfl⟩ := H
                go_enter Tryd.func10, Tryd.ntmps10
                go_wp2_with (first | ((with_reducible refine gate_dst (N := 2) rfl ?_); refine box_event ?hg (N := 2) ?hd (cs := #[.bool false, .string (⟨#[]⟩ : ByteArray), .string (⟨#[]⟩ : ByteArray), .string (⟨#[]⟩ : ByteArray)]) (t := 27) ?hr ?_; (case hd => rfl); (case hg => rfl); (case hr => first | (go_simp; done) | (go_simp; rfl)); intro gb134 hg w27 hbox hb; have n0_ := Aside0.mk (below_step (by repeat (first | (with_reducible first | exact HB.out | apply below_alloc | apply pw_below_drewN | apply below_drew1) | exact HB.out)) hb); have n1_ := Aside0.mk (hbox); have n2_ := Aside0.mk ((by rw [hg]; exact (below_size (by repeat (first | (with_reducible first | exact HB.out | apply below_alloc | apply pw_below_drewN | apply below_drew1) | exact HB.out))) : w.heap.size ≤ gb134)); have n3_ := Aside0.mk ((by rw [hg]; exact (below_size (by repeat (first | (with_reducible first | exact HB.out | apply below_alloc | apply pw_below_drewN | apply below_drew1) | exact HB.out))) : w.heap.size ≤ gb134)); clear HB; have HB := n0_; have BK134 := n1_; have GW134 := n2_; have GE134 := n3_; clear n0_ n1_ n2_ n3_; clear hb hbox hg) | ((with_reducible refine gate_callee (f := 16) rfl ?_); refine goesL_ (some 7) rfl rfl Tryd.func16 (by kernel_rfl) rfl #[.string a0] rfl (by (try simp only [List.map_toArray, List.map_cons, List.map_nil]); first | done | rfl | (simp only [List.length_drop, List.length_take]; rfl)) ?_; (with_reducible refine (spec_debTrim.calls k a0 t135 _ A2.out).mono ?_); rintro e w' ⟨rfl, ⟨nd, rfl⟩⟩; refine ⟨_, rfl, ?_⟩; (try (rw [drewN_self w27]; generalize hq_ : World.drewN w27 _ = w27; have n0_ : Aside0 (w27.heap[gb134]? = some (.cells #[.bool false, .string (⟨#[]⟩ : ByteArray), .string (⟨#[]⟩ : ByteArray), .string (⟨#[]⟩ : ByteArray)] 27 (0, 0))) := ⟨by rw [← hq_]; exact (by (with_reducible repeat (first | refine blk_drewN ?_ _ | refine blk_drew ?_ | refine blk_alloc ?_ _)); exact BK134.out)⟩; have n1_ : Aside0 (Below w.heap.size w w27) := ⟨by rw [← hq_]; exact (by repeat (first | (with_reducible first | exact HB.out | apply below_alloc | apply pw_below_drewN | apply below_drew1 | refine below_set ?_ GE134.out) | exact HB.out))⟩; clear BK134 HB hq_; have BK134 := n0_; have HB := n1_; clear n0_ n1_))) | ((with_reducible refine gate_callee (f := 17) rfl ?_); refine goesL_ (some 9) rfl rfl Tryd.func17 (by kernel_rfl) rfl #[.string t135, .int .u8 58] rfl (by (try simp only [List.map_toArray, List.map_cons, List.map_nil]); first | done | rfl | (simp only [List.length_drop, List.length_take]; rfl)) ?_; (with_reducible refine (spec_indexOf.calls k t135 58 t136 _ A3.out).mono ?_); rintro e w' ⟨rfl, ⟨nd, rfl⟩⟩; refine ⟨_, rfl, ?_⟩; (try (rw [drewN_self w27]; generalize hq_ : World.drewN w27 _ = w27; have n0_ : Aside0 (w27.heap[gb134]? = some (.cells #[.bool false, .string (⟨#[]⟩ : ByteArray), .string (⟨#[]⟩ : ByteArray), .string (⟨#[]⟩ : ByteArray)] 27 (0, 0))) := ⟨by rw [← hq_]; exact (by (with_reducible repeat (first | refine blk_drewN ?_ _ | refine blk_drew ?_ | refine blk_alloc ?_ _)); exact BK134.out)⟩; have n1_ : Aside0 (Below w.heap.size w w27) := ⟨by rw [← hq_]; exact (by repeat (first | (with_reducible first | exact HB.out | apply below_alloc | apply pw_below_drewN | apply below_drew1 | refine below_set ?_ GE134.out) | exact HB.out))⟩; clear BK134 HB hq_; have BK134 := n0_; have HB := n1_; clear n0_ n1_))) | ((with_reducible refine gate_callee (f := 21) rfl ?_); refine goesL_ (some 16) rfl rfl Tryd.func21 (by kernel_rfl) rfl #[.string (t135.extract 0 (t136 : Int).toNat)] rfl (by (try simp only [List.map_toArray, List.map_cons, List.map_nil]); first | done | rfl | (simp only [List.length_drop, List.length_take]; rfl)) ?_; (with_reducible refine (spec_Number.calls k (t135.extract 0 (t136 : Int).toNat) t137 t138 true _ A7.out).mono ?_); rintro e w28 ⟨rfl, hb⟩; refine ⟨_, rfl, ?_⟩; have n0_ := Aside0.mk (blk_below (g := gb134) (o := .cells #[.bool false, .string (⟨#[]⟩ : ByteArray), .string (⟨#[]⟩ : ByteArray), .string (⟨#[]⟩ : ByteArray)] 27 (0, 0)) (by (with_reducible repeat (first | refine blk_drewN ?_ _ | refine blk_drew ?_ | refine blk_alloc ?_ _)); exact BK134.out) hb); have n1_ := Aside0.mk (below_step (by repeat (first | (with_reducible first | exact HB.out | apply below_alloc | apply pw_below_drewN | apply below_drew1 | refine below_set ?_ GE134.out) | exact HB.out)) hb); clear BK134; clear HB; have BK134 := n0_; have HB := n1_; clear n0_ n1_; (try clear hb); (try clear hb2); (try clear hk); (try clear hi); have hcz29_0 : w28.cell? ⟨gb134, 0, none⟩ = some (.bool false) := (blk_cell BK134.out 0).trans rfl; have hcz29_1 : w28.cell? ⟨gb134, 1, none⟩ = some (.string (⟨#[]⟩ : ByteArray)) := (blk_cell BK134.out 1).trans rfl; have hcz29_2 : w28.cell? ⟨gb134, 2, none⟩ = some (.string (⟨#[]⟩ : ByteArray)) := (blk_cell BK134.out 2).trans rfl; have hcz29_3 : w28.cell? ⟨gb134, 3, none⟩ = some (.string (⟨#[]⟩ : ByteArray)) := (blk_cell BK134.out 3).trans rfl; have hfz29_0 := blk_frozen BK134.out 0; have hfz29_1 := blk_frozen BK134.out 1; have hfz29_2 := blk_frozen BK134.out 2; have hfz29_3 := blk_frozen BK134.out 3) | ((with_reducible refine gate_callee (f := 22) rfl ?_); refine goesL_ (some 31) rfl rfl Tryd.func22 (by kernel_rfl) rfl #[.string (t135.extract ((ji9) : Int).toNat t135.size), .int .u8 45] rfl (by (try simp only [List.map_toArray, List.map_cons, List.map_nil]); first | done | (simp only [hji9]; rfl) | rfl | (simp only [List.length_drop, List.length_take]; rfl)) ?_; (with_reducible refine (spec_lastOf.calls k (t135.extract ((ji9) : Int).toNat t135.size) 45 t140 _ A12.out).mono ?_); rintro e w' ⟨rfl, ⟨nd, rfl⟩⟩; refine ⟨_, rfl, ?_⟩))
                refine bodyPost_ret (results_ct rfl _ _ gb134 27 #[.bool t137, .string t138, .string (t135.extract ((ji9) : Int).toNat t135.size), .string (⟨#[48]⟩ : ByteArray)] (0, 0) _ rfl (by (with_reducible repeat (first | refine blk_drewN ?_ _ | refine blk_drew ?_ | refine blk_alloc ?_ _)); refine blk_put (cs := #[.bool t137, .string t138, .string (t135.extract ((ji9) : Int).toNat t135.size), .string (⟨#[48]⟩ : ByteArray)]) ?_ 3 _ rfl; (with_reducible repeat (first | refine blk_drewN ?_ _ | refine blk_drew ?_ | refine blk_alloc ?_ _)); refine blk_put (cs := #[.bool t137, .string t138, .string (t135.extract ((ji9) : Int).toNat t135.size), .string (⟨#[48]⟩ : ByteArray)]) ?_ 2 _ rfl; (with_reducible repeat (first | refine blk_drewN ?_ _ | refine blk_drew ?_ | refine blk_alloc ?_ _)); refine blk_put (cs := #[.bool t137, .string t138, .string (t135.extract ((ji9) : Int).toNat t135.size), .string (⟨#[48]⟩ : ByteArray)]) ?_ 1 _ rfl; (with_reducible repeat (first | refine blk_drewN ?_ _ | refine blk_drew ?_ | refine blk_alloc ?_ _)); refine blk_put (cs := #[.bool t137, .string t138, .string (t135.extract ((ji9) : Int).toNat t135.size), .string (⟨#[48]⟩ : ByteArray)]) ?_ 0 _ rfl; (with_reducible repeat (first | refine blk_drewN ?_ _ | refine blk_drew ?_ | refine blk_alloc ?_ _)); refine blk_put (cs := #[.bool t137, .string t138, .string (t135.extract ((ji9) : Int).toNat t135.size), .string (⟨#[]⟩ : ByteArray)]) ?_ 3 _ rfl; (with_reducible repeat (first | refine blk_drewN ?_ _ | refine blk_drew ?_ | refine blk_alloc ?_ _)); refine blk_put (cs := #[.bool t137, .string t138, .string (⟨#[]⟩ : ByteArray), .string (⟨#[]⟩ : ByteArray)]) ?_ 2 _ rfl; (with_reducible repeat (first | refine blk_drewN ?_ _ | refine blk_drew ?_ | refine blk_alloc ?_ _)); refine blk_put (cs := #[.bool t137, .string (⟨#[]⟩ : ByteArray), .string (⟨#[]⟩ : ByteArray), .string (⟨#[]⟩ : ByteArray)]) ?_ 1 _ rfl; (with_reducible repeat (first | refine blk_drewN ?_ _ | refine blk_drew ?_ | refine blk_alloc ?_ _)); refine blk_put (cs := #[.bool false, .string (⟨#[]⟩ : ByteArray), .string (⟨#[]⟩ : ByteArray), .string (⟨#[]⟩ : ByteArray)]) ?_ 0 _ rfl; (with_reducible repeat (first | refine blk_drewN ?_ _ | refine blk_drew ?_ | refine blk_alloc ?_ _)); exact BK134.out) Tryd.underlying27 rfl (by kernel_rfl)) rfl ?_
                exact ⟨by first | rfl | (simp [errW_none, errW_some] <;> rfl) | (simp only [← hji9]; first | rfl | (simp [errW_none, errW_some] <;> rfl)) | (simp [*, errW_none, errW_some] <;> rfl) | (simp [bne_nil_]; done), by repeat (first | (with_reducible first | exact HB.out | apply below_alloc | apply pw_below_drewN | apply below_drew1 | refine below_set ?_ GE134.out) | exact HB.out)⟩
            · rw [if_neg c11] at H
              exact absurd H (by simp)
          · rw [if_neg c10] at H
            exact absurd H (by simp)
        · replace c8 := Bool.eq_false_iff.mpr c8
          subst c8
          have H1 : (some (false, (⟨#[]⟩ : ByteArray), (⟨#[]⟩ : ByteArray), (⟨#[]⟩ : ByteArray), false)) = some (r1, r2, r3, r4, r5) := by rw [if_neg (show ¬ (false = true) by decide)] at H; exact H
          clear H
          have H := H1
          clear H1
          simp only [Option.some.injEq, Prod.mk.injEq] at H
          obtain ⟨rfl, rfl, rfl, rfl, rfl⟩ := H
          go_enter Tryd.func10, Tryd.ntmps10
          go_wp2_with (first | ((with_reducible refine gate_dst (N := 2) rfl ?_); refine box_event ?hg (N := 2) ?hd (cs := #[.bool false, .string (⟨#[]⟩ : ByteArray), .string (⟨#[]⟩ : ByteArray), .string (⟨#[]⟩ : ByteArray)]) (t := 27) ?hr ?_; (case hd => rfl); (case hg => rfl); (case hr => first | (go_simp; done) | (go_simp; rfl)); intro gb134 hg w30 hbox hb; have n0_ := Aside0.mk (below_step (by repeat (first | (with_reducible first | exact HB.out | apply below_alloc | apply pw_below_drewN | apply below_drew1) | exact HB.out)) hb); have n1_ := Aside0.mk (hbox); have n2_ := Aside0.mk ((by rw [hg]; exact (below_size (by repeat (first | (with_reducible first | exact HB.out | apply below_alloc | apply pw_below_drewN | apply below_drew1) | exact HB.out))) : w.heap.size ≤ gb134)); have n3_ := Aside0.mk ((by rw [hg]; exact (below_size (by repeat (first | (with_reducible first | exact HB.out | apply below_alloc | apply pw_below_drewN | apply below_drew1) | exact HB.out))) : w.heap.size ≤ gb134)); clear HB; have HB := n0_; have BK134 := n1_; have GW134 := n2_; have GE134 := n3_; clear n0_ n1_ n2_ n3_; clear hb hbox hg) | ((with_reducible refine gate_callee (f := 16) rfl ?_); refine goesL_ (some 7) rfl rfl Tryd.func16 (by kernel_rfl) rfl #[.string a0] rfl (by (try simp only [List.map_toArray, List.map_cons, List.map_nil]); first | done | rfl | (simp only [List.length_drop, List.length_take]; rfl)) ?_; (with_reducible refine (spec_debTrim.calls k a0 t135 _ A2.out).mono ?_); rintro e w' ⟨rfl, ⟨nd, rfl⟩⟩; refine ⟨_, rfl, ?_⟩; (try (rw [drewN_self w30]; generalize hq_ : World.drewN w30 _ = w30; have n0_ : Aside0 (w30.heap[gb134]? = some (.cells #[.bool false, .string (⟨#[]⟩ : ByteArray), .string (⟨#[]⟩ : ByteArray), .string (⟨#[]⟩ : ByteArray)] 27 (0, 0))) := ⟨by rw [← hq_]; exact (by (with_reducible repeat (first | refine blk_drewN ?_ _ | refine blk_drew ?_ | refine blk_alloc ?_ _)); exact BK134.out)⟩; have n1_ : Aside0 (Below w.heap.size w w30) := ⟨by rw [← hq_]; exact (by repeat (first | (with_reducible first | exact HB.out | apply below_alloc | apply pw_below_drewN | apply below_drew1 | refine below_set ?_ GE134.out) | exact HB.out))⟩; clear BK134 HB hq_; have BK134 := n0_; have HB := n1_; clear n0_ n1_))) | ((with_reducible refine gate_callee (f := 17) rfl ?_); refine goesL_ (some 9) rfl rfl Tryd.func17 (by kernel_rfl) rfl #[.string t135, .int .u8 58] rfl (by (try simp only [List.map_toArray, List.map_cons, List.map_nil]); first | done | rfl | (simp only [List.length_drop, List.length_take]; rfl)) ?_; (with_reducible refine (spec_indexOf.calls k t135 58 t136 _ A3.out).mono ?_); rintro e w' ⟨rfl, ⟨nd, rfl⟩⟩; refine ⟨_, rfl, ?_⟩; (try (rw [drewN_self w30]; generalize hq_ : World.drewN w30 _ = w30; have n0_ : Aside0 (w30.heap[gb134]? = some (.cells #[.bool false, .string (⟨#[]⟩ : ByteArray), .string (⟨#[]⟩ : ByteArray), .string (⟨#[]⟩ : ByteArray)] 27 (0, 0))) := ⟨by rw [← hq_]; exact (by (with_reducible repeat (first | refine blk_drewN ?_ _ | refine blk_drew ?_ | refine blk_alloc ?_ _)); exact BK134.out)⟩; have n1_ : Aside0 (Below w.heap.size w w30) := ⟨by rw [← hq_]; exact (by repeat (first | (with_reducible first | exact HB.out | apply below_alloc | apply pw_below_drewN | apply below_drew1 | refine below_set ?_ GE134.out) | exact HB.out))⟩; clear BK134 HB hq_; have BK134 := n0_; have HB := n1_; clear n0_ n1_))) | ((with_reducible refine gate_callee (f := 21) rfl ?_); refine goesL_ (some 16) rfl rfl Tryd.func21 (by kernel_rfl) rfl #[.string (t135.extract 0 (t136 : Int).toNat)] rfl (by (try simp only [List.map_toArray, List.map_cons, List.map_nil]); first | done | rfl | (simp only [List.length_drop, List.length_take]; rfl)) ?_; (with_reducible refine (spec_Number.calls k (t135.extract 0 (t136 : Int).toNat) t137 t138 false _ A7.out).mono ?_); rintro e w31 ⟨rfl, hb⟩; refine ⟨_, rfl, ?_⟩; have n0_ := Aside0.mk (blk_below (g := gb134) (o := .cells #[.bool false, .string (⟨#[]⟩ : ByteArray), .string (⟨#[]⟩ : ByteArray), .string (⟨#[]⟩ : ByteArray)] 27 (0, 0)) (by (with_reducible repeat (first | refine blk_drewN ?_ _ | refine blk_drew ?_ | refine blk_alloc ?_ _)); exact BK134.out) hb); have n1_ := Aside0.mk (below_step (by repeat (first | (with_reducible first | exact HB.out | apply below_alloc | apply pw_below_drewN | apply below_drew1 | refine below_set ?_ GE134.out) | exact HB.out)) hb); clear BK134; clear HB; have BK134 := n0_; have HB := n1_; clear n0_ n1_; (try clear hb); (try clear hb2); (try clear hk); (try clear hi); have hcz32_0 : w31.cell? ⟨gb134, 0, none⟩ = some (.bool false) := (blk_cell BK134.out 0).trans rfl; have hcz32_1 : w31.cell? ⟨gb134, 1, none⟩ = some (.string (⟨#[]⟩ : ByteArray)) := (blk_cell BK134.out 1).trans rfl; have hcz32_2 : w31.cell? ⟨gb134, 2, none⟩ = some (.string (⟨#[]⟩ : ByteArray)) := (blk_cell BK134.out 2).trans rfl; have hcz32_3 : w31.cell? ⟨gb134, 3, none⟩ = some (.string (⟨#[]⟩ : ByteArray)) := (blk_cell BK134.out 3).trans rfl; have hfz32_0 := blk_frozen BK134.out 0; have hfz32_1 := blk_frozen BK134.out 1; have hfz32_2 := blk_frozen BK134.out 2; have hfz32_3 := blk_frozen BK134.out 3))
          refine bodyPost_ret (results_ct rfl _ _ gb134 27 #[.bool false, .string (⟨#[]⟩ : ByteArray), .string (⟨#[]⟩ : ByteArray), .string (⟨#[]⟩ : ByteArray)] (0, 0) _ rfl (by (with_reducible repeat (first | refine blk_drewN ?_ _ | refine blk_drew ?_ | refine blk_alloc ?_ _)); refine blk_put (cs := #[.bool false, .string (⟨#[]⟩ : ByteArray), .string (⟨#[]⟩ : ByteArray), .string (⟨#[]⟩ : ByteArray)]) ?_ 3 _ rfl; (with_reducible repeat (first | refine blk_drewN ?_ _ | refine blk_drew ?_ | refine blk_alloc ?_ _)); refine blk_put (cs := #[.bool false, .string (⟨#[]⟩ : ByteArray), .string (⟨#[]⟩ : ByteArray), .string (⟨#[]⟩ : ByteArray)]) ?_ 2 _ rfl; (with_reducible repeat (first | refine blk_drewN ?_ _ | refine blk_drew ?_ | refine blk_alloc ?_ _)); refine blk_put (cs := #[.bool false, .string t138, .string (⟨#[]⟩ : ByteArray), .string (⟨#[]⟩ : ByteArray)]) ?_ 1 _ rfl; (with_reducible repeat (first | refine blk_drewN ?_ _ | refine blk_drew ?_ | refine blk_alloc ?_ _)); refine blk_put (cs := #[.bool t137, .string t138, .string (⟨#[]⟩ : ByteArray), .string (⟨#[]⟩ : ByteArray)]) ?_ 0 _ rfl; (with_reducible repeat (first | refine blk_drewN ?_ _ | refine blk_drew ?_ | refine blk_alloc ?_ _)); refine blk_put (cs := #[.bool t137, .string (⟨#[]⟩ : ByteArray), .string (⟨#[]⟩ : ByteArray), .string (⟨#[]⟩ : ByteArray)]) ?_ 1 _ rfl; (with_reducible repeat (first | refine blk_drewN ?_ _ | refine blk_drew ?_ | refine blk_alloc ?_ _)); refine blk_put (cs := #[.bool false, .string (⟨#[]⟩ : ByteArray), .string (⟨#[]⟩ : ByteArray), .string (⟨#[]⟩ : ByteArray)]) ?_ 0 _ rfl; (with_reducible repeat (first | refine blk_drewN ?_ _ | refine blk_drew ?_ | refine blk_alloc ?_ _)); exact BK134.out) Tryd.underlying27 rfl (by kernel_rfl)) rfl ?_
          exact ⟨by first | rfl | (simp [errW_none, errW_some] <;> rfl) | (simp [*, errW_none, errW_some] <;> rfl) | (simp [bne_nil_]; done), by repeat (first | (with_reducible first | exact HB.out | apply below_alloc | apply pw_below_drewN | apply below_drew1 | refine below_set ?_ GE134.out) | exact HB.out)⟩
      · rw [if_neg c6] at H
        exact absurd H (by simp)
    · rw [if_neg c5] at H
      exact absurd H (by simp)
  · rw [if_neg c4] at H
    have c4b0 : decide (0 ≤ t136) = false := decide_eq_false c4
    clear c4
    replace H := Option.bind_eq_some_iff.mp H
    obtain ⟨t141, A330, H⟩ := H
    replace H : (if t141 ≥ 0 then (if 0 ≤ t141 then (if t141 ≤ (t135.size : Int) then (if 0 ≤ (wrap64 (t141 + 1)) then (if (wrap64 (t141 + 1)) ≤ (t135.size : Int) then (some (false, (⟨#[]⟩ : ByteArray), t135.extract 0 (t141 : Int).toNat, t135.extract ((wrap64 (t141 + 1)) : Int).toNat t135.size, true)) else (none)) else (none)) else (none)) else (none)) else (some (false, (⟨#[]⟩ : ByteArray), t135, (⟨#[48]⟩ : ByteArray), true))) = some (r1, r2, r3, r4, r5) := H
    have A33 := Aside0.mk A330
    clear A330
    by_cases c34 : t141 ≥ 0
    · rw [if_pos c34] at H
      have c34b0 : decide (0 ≤ t141) = true := decide_eq_true c34
      clear c34
      by_cases c35 : 0 ≤ t141
      · rw [if_pos c35] at H
        have c35b0 := eq_true c35
        have c35b1 : decide (0 ≤ t141) = true := decide_eq_true c35
        clear c35
        by_cases c36 : t141 ≤ (t135.size : Int)
        · rw [if_pos c36] at H
          have c36b0 := eq_true c36
          have c36b1 : decide (t141 ≤ (t135.size : Int)) = true := decide_eq_true c36
          clear c36
          obtain ⟨ji37, hji37⟩ : ∃ j_ : Int, (wrap64 (t141 + 1)) = j_ := ⟨_, rfl⟩
          replace H : (if 0 ≤ (ji37) then (if (ji37) ≤ (t135.size : Int) then (some (false, (⟨#[]⟩ : ByteArray), t135.extract 0 (t141 : Int).toNat, t135.extract ((ji37) : Int).toNat t135.size, true)) else (none)) else (none)) = some (r1, r2, r3, r4, r5) := by first | (rw [hji37] at H; exact H) | (simp only [hji37] at H ⊢; exact H)
          (try rw [hji37] at A2)
          (try rw [hji37] at A3)
          (try rw [hji37] at A33)
          have hji37w : (IntKind.i64.wrap (t141 + 1)) = ji37 := (i64_w _).trans hji37
          by_cases c38 : 0 ≤ (ji37)
          · rw [if_pos c38] at H
            have c38b0 := eq_true c38
            have c38b1 : decide (0 ≤ (ji37)) = true := decide_eq_true c38
            clear c38
            by_cases c39 : (ji37) ≤ (t135.size : Int)
            · rw [if_pos c39] at H
              have c39b0 := eq_true c39
              have c39b1 : decide ((ji37) ≤ (t135.size : Int)) = true := decide_eq_true c39
              clear c39
              simp only [Option.some.injEq, Prod.mk.injEq] at H
              obtain ⟨rfl, rfl, rfl, rfl, rfl⟩ := H
              go_enter Tryd.func10, Tryd.ntmps10
              try go_wp2_with (first | ((with_reducible refine gate_dst (N := 2) rfl ?_); refine box_event ?hg (N := 2) ?hd (cs := #[.bool false, .string (⟨#[]⟩ : ByteArray), .string (⟨#[]⟩ : ByteArray), .string (⟨#[]⟩ : ByteArray)]) (t := 27) ?hr ?_; (case hd => rfl); (case hg => rfl); (case hr => first | (go_simp; done) | (go_simp; rfl)); intro gb134 hg w40 hbox hb; have n0_ := Aside0.mk (below_step (by repeat (first | (with_reducible first | exact HB.out | apply below_alloc | apply pw_below_drewN | apply below_drew1) | exact HB.out)) hb); have n1_ := Aside0.mk (hbox); have n2_ := Aside0.mk ((by rw [hg]; exact (below_size (by repeat (first | (with_reducible first | exact HB.out | apply below_alloc | apply pw_below_drewN | apply below_drew1) | exact HB.out))) : w.heap.size ≤ gb134)); have n3_ := Aside0.mk ((by rw [hg]; exact (below_size (by repeat (first | (with_reducible first | exact HB.out | apply below_alloc | apply pw_below_drewN | apply below_drew1) | exact HB.out))) : w.heap.size ≤ gb134)); clear HB; have HB := n0_; have BK134 := n1_; have GW134 := n2_; have GE134 := n3_; clear n0_ n1_ n2_ n3_; clear hb hbox hg) | ((with_reducible refine gate_callee (f := 16) rfl ?_); refine goesL_ (some 7) rfl rfl Tryd.func16 (by kernel_rfl) rfl #[.string a0] rfl (by (try simp only [List.map_toArray, List.map_cons, List.map_nil]); first | done | rfl | (simp only [List.length_drop, List.length_take]; rfl)) ?_; (with_reducible refine (spec_debTrim.calls k a0 t135 _ A2.out).mono ?_); rintro e w' ⟨rfl, ⟨nd, rfl⟩⟩; refine ⟨_, rfl, ?_⟩; (try (rw [drewN_self w40]; generalize hq_ : World.drewN w40 _ = w40; have n0_ : Aside0 (w40.heap[gb134]? = some (.cells #[.bool false, .string (⟨#[]⟩ : ByteArray), .string (⟨#[]⟩ : ByteArray), .string (⟨#[]⟩ : ByteArray)] 27 (0, 0))) := ⟨by rw [← hq_]; exact (by (with_reducible repeat (first | refine blk_drewN ?_ _ | refine blk_drew ?_ | refine blk_alloc ?_ _)); exact BK134.out)⟩; have n1_ : Aside0 (Below w.heap.size w w40) := ⟨by rw [← hq_]; exact (by repeat (first | (with_reducible first | exact HB.out | apply below_alloc | apply pw_below_drewN | apply below_drew1 | refine below_set ?_ GE134.out) | exact HB.out))⟩; clear BK134 HB hq_; have BK134 := n0_; have HB := n1_; clear n0_ n1_))) | ((with_reducible refine gate_callee (f := 17) rfl ?_); refine goesL_ (some 9) rfl rfl Tryd.func17 (by kernel_rfl) rfl #[.string t135, .int .u8 58] rfl (by (try simp only [List.map_toArray, List.map_cons, List.map_nil]); first | done | rfl | (simp only [List.length_drop, List.length_take]; rfl)) ?_; (with_reducible refine (spec_indexOf.calls k t135 58 t136 _ A3.out).mono ?_); rintro e w' ⟨rfl, ⟨nd, rfl⟩⟩; refine ⟨_, rfl, ?_⟩; (try (rw [drewN_self w40]; generalize hq_ : World.drewN w40 _ = w40; have n0_ : Aside0 (w40.heap[gb134]? = some (.cells #[.bool false, .string (⟨#[]⟩ : ByteArray), .string (⟨#[]⟩ : ByteArray), .string (⟨#[]⟩ : ByteArray)] 27 (0, 0))) := ⟨by rw [← hq_]; exact (by (with_reducible repeat (first | refine blk_drewN ?_ _ | refine blk_drew ?_ | refine blk_alloc ?_ _)); exact BK134.out)⟩; have n1_ : Aside0 (Below w.heap.size w w40) := ⟨by rw [← hq_]; exact (by repeat (first | (with_reducible first | exact HB.out | apply below_alloc | apply pw_below_drewN | apply below_drew1 | refine below_set ?_ GE134.out) | exact HB.out))⟩; clear BK134 HB hq_; have BK134 := n0_; have HB := n1_; clear n0_ n1_)); have hcz41_0 : w40.cell? ⟨gb134, 0, none⟩ = some (.bool false) := (blk_cell BK134.out 0).trans rfl; have hcz41_1 : w40.cell? ⟨gb134, 1, none⟩ = some (.string (⟨#[]⟩ : ByteArray)) := (blk_cell BK134.out 1).trans rfl; have hcz41_2 : w40.cell? ⟨gb134, 2, none⟩ = some (.string (⟨#[]⟩ : ByteArray)) := (blk_cell BK134.out 2).trans rfl; have hcz41_3 : w40.cell? ⟨gb134, 3, none⟩ = some (.string (⟨#[]⟩ : ByteArray)) := (blk_cell BK134.out 3).trans rfl; have hfz41_0 := blk_frozen BK134.out 0; have hfz41_1 := blk_frozen BK134.out 1; have hfz41_2 := blk_frozen BK134.out 2; have hfz41_3 := blk_frozen BK134.out 3) | ((with_reducible refine gate_callee (f := 22) rfl ?_); refine goesL_ (some 31) rfl rfl Tryd.func22 (by kernel_rfl) rfl #[.string t135, .int .u8 45] rfl (by (try simp only [List.map_toArray, List.map_cons, List.map_nil]); first | done | rfl | (simp only [List.length_drop, List.length_take]; rfl)) ?_; (with_reducible refine (spec_lastOf.calls k t135 45 t141 _ A33.out).mono ?_); rintro e w' ⟨rfl, ⟨nd, rfl⟩⟩; refine ⟨_, rfl, ?_⟩))
              have n0_ : Aside0 (((w40.setCell ⟨gb134, 2, none⟩ (.string t135)).setCell ⟨gb134, 3, none⟩ (.string (⟨#[48]⟩ : ByteArray))).heap[gb134]? = some (.cells #[.bool false, .string (⟨#[]⟩ : ByteArray), .string t135, .string (⟨#[48]⟩ : ByteArray)] 27 (0, 0))) := ⟨by (with_reducible repeat (first | refine blk_drewN ?_ _ | refine blk_drew ?_ | refine blk_alloc ?_ _)); refine blk_put (cs := #[.bool false, .string (⟨#[]⟩ : ByteArray), .string t135, .string (⟨#[]⟩ : ByteArray)]) ?_ 3 _ rfl; (with_reducible repeat (first | refine blk_drewN ?_ _ | refine blk_drew ?_ | refine blk_alloc ?_ _)); refine blk_put (cs := #[.bool false, .string (⟨#[]⟩ : ByteArray), .string (⟨#[]⟩ : ByteArray), .string (⟨#[]⟩ : ByteArray)]) ?_ 2 _ rfl; (with_reducible repeat (first | refine blk_drewN ?_ _ | refine blk_drew ?_ | refine blk_alloc ?_ _)); exact BK134.out⟩
              have n1_ : Aside0 (Below w.heap.size w ((w40.setCell ⟨gb134, 2, none⟩ (.string t135)).setCell ⟨gb134, 3, none⟩ (.string (⟨#[48]⟩ : ByteArray)))) := ⟨by repeat (first | (with_reducible first | exact HB.out | apply below_alloc | apply pw_below_drewN | apply below_drew1 | refine below_set ?_ GE134.out) | exact HB.out)⟩
              (try clear BK134)
              (try clear HB)
              generalize ((w40.setCell ⟨gb134, 2, none⟩ (.string t135)).setCell ⟨gb134, 3, none⟩ (.string (⟨#[48]⟩ : ByteArray))) = w42 at n0_ n1_ ⊢
              have BK134 := n0_
              have HB := n1_
              clear n0_ n1_
              (try (rw [drewN_self w42]; generalize hq_ : World.drewN w42 _ = w42; have n0_ : Aside0 (w42.heap[gb134]? = some (.cells #[.bool false, .string (⟨#[]⟩ : ByteArray), .string t135, .string (⟨#[48]⟩ : ByteArray)] 27 (0, 0))) := ⟨by rw [← hq_]; exact (by (with_reducible repeat (first | refine blk_drewN ?_ _ | refine blk_drew ?_ | refine blk_alloc ?_ _)); exact BK134.out)⟩; have n1_ : Aside0 (Below w.heap.size w w42) := ⟨by rw [← hq_]; exact (by repeat (first | (with_reducible first | exact HB.out | apply below_alloc | apply pw_below_drewN | apply below_drew1 | refine below_set ?_ GE134.out) | exact HB.out))⟩; clear BK134 HB hq_; have BK134 := n0_; have HB := n1_; clear n0_ n1_))
              have n0_ := Aside0.mk (blk_drew BK134.out)
              have n1_ := Aside0.mk (below_drew1 HB.out)
              clear BK134
              clear HB
              have BK134 := n0_
              have HB := n1_
              clear n0_ n1_
              refine start_ (n := 11) (S := fun w' => True) (ds := []) #[false, false, false, false, false, false, false, false, false, false, false] (by kernel_rfl) rfl rfl trivial (fun hHeld => ?_); refine with_tabW spec_DebianParse.tab11 spec_DebianParse.bits11 (fun HT_ HW_ => ?_)
              generalize w42.drew = w43 at BK134 HB hHeld ⊢
              refine pure_ (i := 0) (N := some 34) (v := ?_) (a' := ?_) #[true, false, false, false, false, false, false, false, false, false, false] rfl rfl (any_of HT_.out (by kernel_rfl)) (fun _ _ _ h => h) (Or.inl ⟨by rfl, ?_⟩) ?_ ?_
              rotate_left
              · intro w'
                go_simp
                with_reducible rfl
              rotate_left
              · simp only [Act.put, List.setIfInBounds_toArray, List.set_cons_zero, List.set_cons_succ, i64_w, i32_w]
                rfl
              refine pure_ (i := 1) (N := some 35) (v := ?_) (a' := ?_) #[true, true, false, false, false, false, false, false, false, false, false] rfl rfl (any_of HT_.out (by kernel_rfl)) (fun _ _ _ h => h) (Or.inl ⟨by rfl, ?_⟩) ?_ ?_
              rotate_left
              · intro w'
                go_simp
                with_reducible rfl
              rotate_left
              · simp only [Act.put, List.setIfInBounds_toArray, List.set_cons_zero, List.set_cons_succ, i64_w, i32_w]
                rfl
              refine pure_ (i := 2) (N := some 36) (v := ?_) (a' := ?_) #[true, true, true, false, false, false, false, false, false, false, false] rfl rfl (any_of HT_.out (by kernel_rfl)) (fun _ _ _ h => h) (Or.inl ⟨by rfl, ?_⟩) ?_ ?_
              rotate_left
              · intro w'
                go_simp
                with_reducible rfl
              rotate_left
              · simp only [Act.put, List.setIfInBounds_toArray, List.set_cons_zero, List.set_cons_succ, i64_w, i32_w]
                rfl
              refine pure_ (i := 3) (N := some 37) (v := ?_) (a' := ?_) #[true, true, true, true, false, false, false, false, false, false, false] rfl rfl (any_of HT_.out (by kernel_rfl)) (fun _ _ _ h => h) (Or.inl ⟨by rfl, ?_⟩) ?_ ?_
              rotate_left
              · intro w'
                go_simp
                with_reducible rfl
              rotate_left
              · simp only [Act.put, List.setIfInBounds_toArray, List.set_cons_zero, List.set_cons_succ, i64_w, i32_w]
                rfl
              refine pure_ (i := 4) (N := some 38) (v := ?_) (a' := ?_) #[true, true, true, true, true, false, false, false, false, false, false] rfl rfl (any_of HT_.out (by kernel_rfl)) (fun _ _ _ h => h) (Or.inl ⟨by rfl, ?_⟩) ?_ ?_
              rotate_left
              · intro w'
                go_simp
                with_reducible rfl
              rotate_left
              · simp only [Act.put, List.setIfInBounds_toArray, List.set_cons_zero, List.set_cons_succ, i64_w, i32_w]
                rfl
              refine pure_ (i := 5) (N := some 39) (v := ?_) (a' := ?_) #[true, true, true, true, true, true, false, false, false, false, false] rfl rfl (any_of HT_.out (by kernel_rfl)) (fun _ _ _ h => h) (Or.inl ⟨by rfl, ?_⟩) ?_ ?_
              rotate_left
              · intro w'
                go_simp
                with_reducible rfl
              rotate_left
              · simp only [Act.put, List.setIfInBounds_toArray, List.set_cons_zero, List.set_cons_succ, i64_w, i32_w]
                rfl
              refine pure_ (i := 6) (N := some 40) (v := ?_) (a' := ?_) #[true, true, true, true, true, true, true, false, false, false, false] rfl rfl (any_of HT_.out (by kernel_rfl)) (fun _ _ _ h => h) (Or.inl ⟨by rfl, ?_⟩) ?_ ?_
              rotate_left
              · intro w'
                go_simp
                with_reducible rfl
              rotate_left
              · simp only [Act.put, List.setIfInBounds_toArray, List.set_cons_zero, List.set_cons_succ, i64_w, i32_w]
                rfl
              refine pure_ (i := 7) (N := some 41) (v := ?_) (a' := ?_) #[true, true, true, true, true, true, true, true, false, false, false] rfl rfl (any_of HT_.out (by kernel_rfl)) (fun _ _ _ h => h) (Or.inl ⟨by rfl, ?_⟩) ?_ ?_
              rotate_left
              · intro w'
                go_simp
                with_reducible rfl
              rotate_left
              · simp only [Act.put, List.setIfInBounds_toArray, List.set_cons_zero, List.set_cons_succ, i64_w, i32_w]
                rfl
              refine one_ (i := 8) (N := none) #[true, true, true, true, true, true, true, true, true, false, false] rfl rfl (one_of HT_.out (by kernel_rfl)) (by decide) (fun K hK => ?_)
              have hs44 : w43.cell? ⟨gb134, 2, none⟩ = some (.string t135) := (blk_cell BK134.out 2).trans rfl
              have hfs44 := blk_frozen BK134.out 2
              refine skip_ (w1 := ?_) (by rfl) rfl ?_ ?_
              rotate_left
              · go_simp
                rfl
              refine hK.out _ _ trivial (fun hHeld => ?_)
              clear hK K
              refine pure_ (i := 9) (N := some 42) (v := ?_) (a' := ?_) #[true, true, true, true, true, true, true, true, true, true, false] rfl rfl (any_of HT_.out (by kernel_rfl)) (fun _ _ _ h => h) (Or.inl ⟨by rfl, ?_⟩) ?_ ?_
              rotate_left
              · intro w'
                go_simp
                with_reducible rfl
              rotate_left
              · simp only [Act.put, List.setIfInBounds_toArray, List.set_cons_zero, List.set_cons_succ, i64_w, i32_w]
                rfl
              refine one_ (i := 10) (N := none) #[true, true, true, true, true, true, true, true, true, true, true] rfl rfl (one_of HT_.out (by kernel_rfl)) (by decide) (fun K hK => ?_)
              have hs45 : w43.cell? ⟨gb134, 3, none⟩ = some (.string (⟨#[48]⟩ : ByteArray)) := (blk_cell BK134.out 3).trans rfl
              have hfs45 := blk_frozen BK134.out 3
              refine skip_ (w1 := ?_) (by rfl) rfl ?_ ?_
              rotate_left
              · go_simp
                rfl
              refine hK.out _ _ trivial (fun hHeld => ?_)
              clear hK K
              refine done_ (done_of HT_.out (by kernel_rfl)) ?_
              have hcz46_0 : w43.cell? ⟨gb134, 0, none⟩ = some (.bool false) := (blk_cell BK134.out 0).trans rfl
              have hcz46_1 : w43.cell? ⟨gb134, 1, none⟩ = some (.string (⟨#[]⟩ : ByteArray)) := (blk_cell BK134.out 1).trans rfl
              have hcz46_2 : w43.cell? ⟨gb134, 2, none⟩ = some (.string t135) := (blk_cell BK134.out 2).trans rfl
              have hcz46_3 : w43.cell? ⟨gb134, 3, none⟩ = some (.string (⟨#[48]⟩ : ByteArray)) := (blk_cell BK134.out 3).trans rfl
              have hfz46_0 := blk_frozen BK134.out 0
              have hfz46_1 := blk_frozen BK134.out 1
              have hfz46_2 := blk_frozen BK134.out 2
              have hfz46_3 := blk_frozen BK134.out 3
              try go_wp2
              refine bodyPost_ret (results_ct rfl _ _ gb134 27 #[.bool false, .string (⟨#[]⟩ : ByteArray), .string (t135.extract 0 (t141 : Int).toNat), .string (t135.extract ((ji37) : Int).toNat t135.size)] (0, 0) _ rfl (by (with_reducible repeat (first | refine blk_drewN ?_ _ | refine blk_drew ?_ | refine blk_alloc ?_ _)); refine blk_put (cs := #[.bool false, .string (⟨#[]⟩ : ByteArray), .string (t135.extract 0 (t141 : Int).toNat), .string (t135.extract ((ji37) : Int).toNat t135.size)]) ?_ 3 _ rfl; (with_reducible repeat (first | refine blk_drewN ?_ _ | refine blk_drew ?_ | refine blk_alloc ?_ _)); refine blk_put (cs := #[.bool false, .string (⟨#[]⟩ : ByteArray), .string (t135.extract 0 (t141 : Int).toNat), .string (t135.extract ((ji37) : Int).toNat t135.size)]) ?_ 2 _ rfl; (with_reducible repeat (first | refine blk_drewN ?_ _ | refine blk_drew ?_ | refine blk_alloc ?_ _)); refine blk_put (cs := #[.bool false, .string (⟨#[]⟩ : ByteArray), .string (t135.extract 0 (t141 : Int).toNat), .string (t135.extract ((ji37) : Int).toNat t135.size)]) ?_ 1 _ rfl; (with_reducible repeat (first | refine blk_drewN ?_ _ | refine blk_drew ?_ | refine blk_alloc ?_ _)); refine blk_put (cs := #[.bool false, .string (⟨#[]⟩ : ByteArray), .string (t135.extract 0 (t141 : Int).toNat), .string (t135.extract ((ji37) : Int).toNat t135.size)]) ?_ 0 _ rfl; (with_reducible repeat (first | refine blk_drewN ?_ _ | refine blk_drew ?_ | refine blk_alloc ?_ _)); refine blk_put (cs := #[.bool false, .string (⟨#[]⟩ : ByteArray), .string (t135.extract 0 (t141 : Int).toNat), .string (⟨#[48]⟩ : ByteArray)]) ?_ 3 _ rfl; (with_reducible repeat (first | refine blk_drewN ?_ _ | refine blk_drew ?_ | refine blk_alloc ?_ _)); refine blk_put (cs := #[.bool false, .string (⟨#[]⟩ : ByteArray), .string t135, .string (⟨#[48]⟩ : ByteArray)]) ?_ 2 _ rfl; (with_reducible repeat (first | refine blk_drewN ?_ _ | refine blk_drew ?_ | refine blk_alloc ?_ _)); exact BK134.out) Tryd.underlying27 rfl (by kernel_rfl)) rfl ?_
              exact ⟨by first | rfl | (simp [errW_none, errW_some] <;> rfl) | (simp only [← hji37]; first | rfl | (simp [errW_none, errW_some] <;> rfl)) | (simp [*, errW_none, errW_some] <;> rfl) | (simp [bne_nil_]; done), by repeat (first | (with_reducible first | exact HB.out | apply below_alloc | apply pw_below_drewN | apply below_drew1 | refine below_set ?_ GE134.out) | exact HB.out)⟩
            · rw [if_neg c39] at H
              exact absurd H (by simp)
          · rw [if_neg c38] at H
            exact absurd H (by simp)
        · rw [if_neg c36] at H
          exact absurd H (by simp)
      · rw [if_neg c35] at H
        exact absurd H (by simp)
    · rw [if_neg c34] at H
      have c34b0 : decide (0 ≤ t141) = false := decide_eq_false c34
      clear c34
      simp only [Option.some.injEq, Prod.mk.injEq] at H
      obtain ⟨rfl, rfl, rfl, rfl, rfl⟩ := H
      go_enter Tryd.func10, Tryd.ntmps10
      go_wp2_with (first | ((with_reducible refine gate_dst (N := 2) rfl ?_); refine box_event ?hg (N := 2) ?hd (cs := #[.bool false, .string (⟨#[]⟩ : ByteArray), .string (⟨#[]⟩ : ByteArray), .string (⟨#[]⟩ : ByteArray)]) (t := 27) ?hr ?_; (case hd => rfl); (case hg => rfl); (case hr => first | (go_simp; done) | (go_simp; rfl)); intro gb134 hg w47 hbox hb; have n0_ := Aside0.mk (below_step (by repeat (first | (with_reducible first | exact HB.out | apply below_alloc | apply pw_below_drewN | apply below_drew1) | exact HB.out)) hb); have n1_ := Aside0.mk (hbox); have n2_ := Aside0.mk ((by rw [hg]; exact (below_size (by repeat (first | (with_reducible first | exact HB.out | apply below_alloc | apply pw_below_drewN | apply below_drew1) | exact HB.out))) : w.heap.size ≤ gb134)); have n3_ := Aside0.mk ((by rw [hg]; exact (below_size (by repeat (first | (with_reducible first | exact HB.out | apply below_alloc | apply pw_below_drewN | apply below_drew1) | exact HB.out))) : w.heap.size ≤ gb134)); clear HB; have HB := n0_; have BK134 := n1_; have GW134 := n2_; have GE134 := n3_; clear n0_ n1_ n2_ n3_; clear hb hbox hg) | ((with_reducible refine gate_callee (f := 16) rfl ?_); refine goesL_ (some 7) rfl rfl Tryd.func16 (by kernel_rfl) rfl #[.string a0] rfl (by (try simp only [List.map_toArray, List.map_cons, List.map_nil]); first | done | rfl | (simp only [List.length_drop, List.length_take]; rfl)) ?_; (with_reducible refine (spec_debTrim.calls k a0 t135 _ A2.out).mono ?_); rintro e w' ⟨rfl, ⟨nd, rfl⟩⟩; refine ⟨_, rfl, ?_⟩; (try (rw [drewN_self w47]; generalize hq_ : World.drewN w47 _ = w47; have n0_ : Aside0 (w47.heap[gb134]? = some (.cells #[.bool false, .string (⟨#[]⟩ : ByteArray), .string (⟨#[]⟩ : ByteArray), .string (⟨#[]⟩ : ByteArray)] 27 (0, 0))) := ⟨by rw [← hq_]; exact (by (with_reducible repeat (first | refine blk_drewN ?_ _ | refine blk_drew ?_ | refine blk_alloc ?_ _)); exact BK134.out)⟩; have n1_ : Aside0 (Below w.heap.size w w47) := ⟨by rw [← hq_]; exact (by repeat (first | (with_reducible first | exact HB.out | apply below_alloc | apply pw_below_drewN | apply below_drew1 | refine below_set ?_ GE134.out) | exact HB.out))⟩; clear BK134 HB hq_; have BK134 := n0_; have HB := n1_; clear n0_ n1_))) | ((with_reducible refine gate_callee (f := 17) rfl ?_); refine goesL_ (some 9) rfl rfl Tryd.func17 (by kernel_rfl) rfl #[.string t135, .int .u8 58] rfl (by (try simp only [List.map_toArray, List.map_cons, List.map_nil]); first | done | rfl | (simp only [List.length_drop, List.length_take]; rfl)) ?_; (with_reducible refine (spec_indexOf.calls k t135 58 t136 _ A3.out).mono ?_); rintro e w' ⟨rfl, ⟨nd, rfl⟩⟩; refine ⟨_, rfl, ?_⟩; (try (rw [drewN_self w47]; generalize hq_ : World.drewN w47 _ = w47; have n0_ : Aside0 (w47.heap[gb134]? = some (.cells #[.bool false, .string (⟨#[]⟩ : ByteArray), .string (⟨#[]⟩ : ByteArray), .string (⟨#[]⟩ : ByteArray)] 27 (0, 0))) := ⟨by rw [← hq_]; exact (by (with_reducible repeat (first | refine blk_drewN ?_ _ | refine blk_drew ?_ | refine blk_alloc ?_ _)); exact BK134.out)⟩; have n1_ : Aside0 (Below w.heap.size w w47) := ⟨by rw [← hq_]; exact (by repeat (first | (with_reducible first | exact HB.out | apply below_alloc | apply pw_below_drewN | apply below_drew1 | refine below_set ?_ GE134.out) | exact HB.out))⟩; clear BK134 HB hq_; have BK134 := n0_; have HB := n1_; clear n0_ n1_)); have hcz48_0 : w47.cell? ⟨gb134, 0, none⟩ = some (.bool false) := (blk_cell BK134.out 0).trans rfl; have hcz48_1 : w47.cell? ⟨gb134, 1, none⟩ = some (.string (⟨#[]⟩ : ByteArray)) := (blk_cell BK134.out 1).trans rfl; have hcz48_2 : w47.cell? ⟨gb134, 2, none⟩ = some (.string (⟨#[]⟩ : ByteArray)) := (blk_cell BK134.out 2).trans rfl; have hcz48_3 : w47.cell? ⟨gb134, 3, none⟩ = some (.string (⟨#[]⟩ : ByteArray)) := (blk_cell BK134.out 3).trans rfl; have hfz48_0 := blk_frozen BK134.out 0; have hfz48_1 := blk_frozen BK134.out 1; have hfz48_2 := blk_frozen BK134.out 2; have hfz48_3 := blk_frozen BK134.out 3) | ((with_reducible refine gate_callee (f := 22) rfl ?_); refine goesL_ (some 31) rfl rfl Tryd.func22 (by kernel_rfl) rfl #[.string t135, .int .u8 45] rfl (by (try simp only [List.map_toArray, List.map_cons, List.map_nil]); first | done | rfl | (simp only [List.length_drop, List.length_take]; rfl)) ?_; (with_reducible refine (spec_lastOf.calls k t135 45 t141 _ A33.out).mono ?_); rintro e w' ⟨rfl, ⟨nd, rfl⟩⟩; refine ⟨_, rfl, ?_⟩))
      refine bodyPost_ret (results_ct rfl _ _ gb134 27 #[.bool false, .string (⟨#[]⟩ : ByteArray), .string t135, .string (⟨#[48]⟩ : ByteArray)] (0, 0) _ rfl (by (with_reducible repeat (first | refine blk_drewN ?_ _ | refine blk_drew ?_ | refine blk_alloc ?_ _)); refine blk_put (cs := #[.bool false, .string (⟨#[]⟩ : ByteArray), .string t135, .string (⟨#[48]⟩ : ByteArray)]) ?_ 3 _ rfl; (with_reducible repeat (first | refine blk_drewN ?_ _ | refine blk_drew ?_ | refine blk_alloc ?_ _)); refine blk_put (cs := #[.bool false, .string (⟨#[]⟩ : ByteArray), .string t135, .string (⟨#[48]⟩ : ByteArray)]) ?_ 2 _ rfl; (with_reducible repeat (first | refine blk_drewN ?_ _ | refine blk_drew ?_ | refine blk_alloc ?_ _)); refine blk_put (cs := #[.bool false, .string (⟨#[]⟩ : ByteArray), .string t135, .string (⟨#[48]⟩ : ByteArray)]) ?_ 1 _ rfl; (with_reducible repeat (first | refine blk_drewN ?_ _ | refine blk_drew ?_ | refine blk_alloc ?_ _)); refine blk_put (cs := #[.bool false, .string (⟨#[]⟩ : ByteArray), .string t135, .string (⟨#[48]⟩ : ByteArray)]) ?_ 0 _ rfl; (with_reducible repeat (first | refine blk_drewN ?_ _ | refine blk_drew ?_ | refine blk_alloc ?_ _)); refine blk_put (cs := #[.bool false, .string (⟨#[]⟩ : ByteArray), .string t135, .string (⟨#[]⟩ : ByteArray)]) ?_ 3 _ rfl; (with_reducible repeat (first | refine blk_drewN ?_ _ | refine blk_drew ?_ | refine blk_alloc ?_ _)); refine blk_put (cs := #[.bool false, .string (⟨#[]⟩ : ByteArray), .string (⟨#[]⟩ : ByteArray), .string (⟨#[]⟩ : ByteArray)]) ?_ 2 _ rfl; (with_reducible repeat (first | refine blk_drewN ?_ _ | refine blk_drew ?_ | refine blk_alloc ?_ _)); exact BK134.out) Tryd.underlying27 rfl (by kernel_rfl)) rfl ?_
      exact ⟨by first | rfl | (simp [errW_none, errW_some] <;> rfl) | (simp [*, errW_none, errW_some] <;> rfl) | (simp [bne_nil_]; done), by repeat (first | (with_reducible first | exact HB.out | apply below_alloc | apply pw_below_drewN | apply below_drew1 | refine below_set ?_ GE134.out) | exact HB.out)⟩

/-! ### laws_FnDebianParse: function 3 -/
def laws_FnDebianParse.j0 : Nat → ByteArray → Bool → Option (Bool)
  | 0, _, _ => none
  | k + 1, x0, x18 => if x18 = true then (some true) else ((Giv.impl_DebianParse.f x0).bind fun bt147 => ((spec_DebianParse.f k x0).bind fun bt153 => (if (bt147.2.2.2.2 == bt153.2.2.2.2) = true then (some ((bt147.1 == bt153.1 && (bt147.2.1.toList == bt153.2.1.toList)) && (bt147.2.2.1.toList == bt153.2.2.1.toList && (bt147.2.2.2.1.toList == bt153.2.2.2.1.toList)))) else (some false))))
def laws_FnDebianParse.f (k : Nat) (a0 : ByteArray) : Option (Bool) := if (a0.size : Int) > 2147483647 then (some true) else ((laws_short.f k (([a0] : List ByteArray))).bind fun t145 => (if t145 = true then ((spec_DebianKnown.f k a0).bind fun t146 => (laws_FnDebianParse.j0 k a0 (!t146))) else (laws_FnDebianParse.j0 k a0 true)))
theorem laws_FnDebianParse.mono_l : ∀ k, (∀ y0 y1, LeO (laws_FnDebianParse.j0 k y0 y1) (laws_FnDebianParse.j0 (k + 1) y0 y1))
  | 0 => fun _ _ r h => by simp [laws_FnDebianParse.j0] at h
  | k + 1 => by
    have ih0 := laws_FnDebianParse.mono_l k
    · intro y0 y1
      unfold laws_FnDebianParse.j0
      repeat' first
      | (with_reducible exact ih0 _ _)
      | (with_reducible exact laws_short.mono _ _)
      | (with_reducible exact spec_DebianKnown.mono _ _)
      | (with_reducible exact spec_DebianParse.mono _ _)
      | (with_reducible exact LeO.refl _)
      | (with_reducible exact LeO.none _)
      | (with_reducible refine LeO.ite ?_ ?_)
      | (with_reducible refine LeO.bind ?_ (fun _ => ?_))
      | exact ih0 _ _
      | exact laws_short.mono _ _
      | exact spec_DebianKnown.mono _ _
      | exact spec_DebianParse.mono _ _
      | exact LeO.none _
      | refine LeO.ite ?_ ?_
      | refine LeO.bind ?_ (fun _ => ?_)
theorem laws_FnDebianParse.mono : ∀ a0 k, LeO (laws_FnDebianParse.f k a0) (laws_FnDebianParse.f (k + 1) a0) := by
  intro a0 k
  have ih0 := laws_FnDebianParse.mono_l k
  unfold laws_FnDebianParse.f
  repeat' first
      | (with_reducible exact ih0 _ _)
      | (with_reducible exact laws_short.mono _ _)
      | (with_reducible exact spec_DebianKnown.mono _ _)
      | (with_reducible exact spec_DebianParse.mono _ _)
      | (with_reducible exact LeO.refl _)
      | (with_reducible exact LeO.none _)
      | (with_reducible refine LeO.ite ?_ ?_)
      | (with_reducible refine LeO.bind ?_ (fun _ => ?_))
      | exact ih0 _ _
      | exact laws_short.mono _ _
      | exact spec_DebianKnown.mono _ _
      | exact spec_DebianParse.mono _ _
      | exact LeO.none _
      | refine LeO.ite ?_ ?_
      | refine LeO.bind ?_ (fun _ => ?_)
set_option maxHeartbeats 8000000 in
set_option maxRecDepth 100000 in
theorem laws_FnDebianParse.calls (k : Nat) (a0 : ByteArray) (r : Bool) (w : World) (h : laws_FnDebianParse.f k a0 = some r) (hL : Giv.LaidD w) :
    Calls Tryd.prog 3 #[.string a0] w fun e w' => e = .returned (.bool r) ∧ Below w.heap.size w w' := by
  have HLd := Aside0.mk hL
  clear hL
  have hu27 := Tryd.underlying27
  have HB := Aside0.mk (Below.refl w.heap.size w)
  have H : (if (a0.size : Int) > 2147483647 then (some true) else ((laws_short.f k (([a0] : List ByteArray))).bind fun t145 => (if t145 = true then ((spec_DebianKnown.f k a0).bind fun t146 => (laws_FnDebianParse.j0 k a0 (!t146))) else (laws_FnDebianParse.j0 k a0 true)))) = some r := h
  clear h
  by_cases c2 : (a0.size : Int) > 2147483647
  · rw [if_pos c2] at H
    have c2b0 : decide (2147483647 < (a0.size : Int)) = true := decide_eq_true c2
    have c2b1 : decide (2147483647 < a0.size) = true := decide_eq_true (by omega)
    clear c2
    obtain rfl := Option.some.inj H
    go_enter Tryd.func3, Tryd.ntmps3
    go_wp2
    go_ret
    exact ⟨by first | rfl | (simp [errW_none, errW_some] <;> rfl) | (simp [*, errW_none, errW_some] <;> rfl) | (simp [bne_nil_]; done), by repeat (first | (with_reducible first | exact HB.out | apply below_alloc | apply pw_below_drewN | apply below_drew1) | exact HB.out)⟩
  · rw [if_neg c2] at H
    have c2b0 : decide (2147483647 < (a0.size : Int)) = false := decide_eq_false c2
    have c2b1 : decide (2147483647 < a0.size) = false := decide_eq_false (by omega)
    clear c2
    have HC3 := Aside0.mk H
    clear H
    go_enter Tryd.func3, Tryd.ntmps3
    go_upto_region 3 with (fail)
    go_cut [18] (fun v18 wc => ∃ (kq : Nat) (x18_2 : Bool), v18 = .bool x18_2 ∧ Aside0 (laws_FnDebianParse.j0 kq a0 x18_2 = some r) ∧ Aside0 (kq ≤ k) ∧ Aside0 (Below w.heap.size w wc))
    case first =>
      have H := HC3.out
      clear HC3
      obtain ⟨y142, hy142⟩ : ∃ y_ : List ByteArray, y_ = (([a0] : List ByteArray)) := ⟨_, rfl⟩
      replace H : ((laws_short.f k y142).bind fun t145 => (if t145 = true then ((spec_DebianKnown.f k a0).bind fun t146 => (laws_FnDebianParse.j0 k a0 (!t146))) else (laws_FnDebianParse.j0 k a0 true))) = some r := by first | (rw [hy142]; with_reducible exact H) | (have H2_ := (Option.bind_some _ _).symm.trans H; rw [hy142]; with_reducible exact H2_) | (have H2_ := (Option.bind_some _ _).symm.trans H; with_reducible exact H2_) | with_reducible exact H | (rw [hy142]; exact H) | exact H
      have Ny142 := Aside0.mk hy142
      clear hy142
      replace H := Option.bind_eq_some_iff.mp H
      obtain ⟨t145, A40, H⟩ := H
      replace H : (if t145 = true then ((spec_DebianKnown.f k a0).bind fun t146 => (laws_FnDebianParse.j0 k a0 (!t146))) else (laws_FnDebianParse.j0 k a0 true)) = some r := H
      have A4 := Aside0.mk A40
      clear A40
      by_cases c5 : t145 = true
      · subst c5
        have H1 : ((spec_DebianKnown.f k a0).bind fun t146 => (laws_FnDebianParse.j0 k a0 (!t146))) = some r := by rw [if_pos rfl] at H; exact H
        clear H
        have H := H1
        clear H1
        replace H := Option.bind_eq_some_iff.mp H
        obtain ⟨t146, A60, H⟩ := H
        replace H : (laws_FnDebianParse.j0 k a0 (!t146)) = some r := H
        have A6 := Aside0.mk A60
        clear A60
        have H' := Aside0.mk H
        clear H
        go_wp2_with (first | ((with_reducible refine gate_dst (N := 11) rfl ?_); refine Kd.R_lit Kd.string _ 9 ?hg (N := 11) ?hd (xs := ([a0] : List ByteArray)) (inner := [.string a0]) (ok := fun _ => True) (okp := fun _ => True) ?hr ?hp (fun _ hk => hk) trivial (Below.refl _ _) (Nat.le_refl _) (by simp) ?_; (case hd => rfl); (case hg => rfl); (case hr => first | (go_simp; done) | (go_simp; rfl)); (case hp => exact (Reps.one (show Kd.M Kd.string _ _ _ a0 [.string a0] from rfl) (Reps.none _ _))); intro v143 w7 ho8 hb hg_ hnew_; clear hg_ hnew_; (first | rw [← Ny142.out] at ho8 | (simp only [Int.reduceToNat] at ho8; rw [← Ny142.out] at ho8)); have n0_ := Aside0.mk (Kd.R_lower ho8 (below_size (by repeat (first | (with_reducible first | exact HB.out | apply below_alloc | apply pw_below_drewN | apply below_drew1) | exact HB.out)))); have n1_ := Aside0.mk (below_step (by repeat (first | (with_reducible first | exact HB.out | apply below_alloc | apply pw_below_drewN | apply below_drew1) | exact HB.out)) hb); clear HB; have HO144 := n0_; have HB := n1_; clear n0_ n1_; clear hb ho8; obtain ⟨Ao9, co9, eo9⟩ := Kd.R_slice HO144.out; subst eo9) | ((with_reducible refine gate_callee (f := 7) rfl ?_); refine goesL_ (some 12) rfl rfl Tryd.func7 (by kernel_rfl) rfl #[.slice Ao9 y142.length co9] rfl (by (try simp only [List.map_toArray, List.map_cons, List.map_nil]); first | done | rfl | (simp only [List.length_drop, List.length_take]; rfl)) ?_; (with_reducible refine (laws_short.calls k _ _ y142 true _ ?side1 ?side2 A4.out).mono ?_); (case side1 => repeat (first | exact (Kd.R_reads' HO144.out).2.2 | (with_reducible refine Kd.C_alloc ?_ _) | (with_reducible refine Kd.C_drewN ?_ _) | (with_reducible refine Kd.C_drew ?_))); (case side2 => exact (Kd.R_reads' HO144.out).2.1); rintro e w' ⟨rfl, ⟨nd, rfl⟩⟩; refine ⟨_, rfl, ?_⟩) | (go_at_call 8; (with_reducible refine (spec_DebianKnown.calls k a0 t146 _ A6.out).mono ?_); rintro e w' ⟨rfl, ⟨nd, rfl⟩⟩))
        go_meet
        case rel => exact ⟨_, (!t146), (by first | rfl | (simp; done) | (simp [*]; done) | (simp [bne_nil_]; done)), H', ⟨by first | omega | exact Nat.le_refl _⟩, ⟨by repeat (first | (with_reducible first | exact HB.out | apply below_alloc | apply pw_below_drewN | apply below_drew1) | exact HB.out)⟩⟩
      · replace c5 := Bool.eq_false_iff.mpr c5
        subst c5
        have H1 : (laws_FnDebianParse.j0 k a0 true) = some r := by rw [if_neg (show ¬ (false = true) by decide)] at H; exact H
        clear H
        have H := H1
        clear H1
        have H' := Aside0.mk H
        clear H
        go_wp2_with (first | ((with_reducible refine gate_dst (N := 11) rfl ?_); refine Kd.R_lit Kd.string _ 9 ?hg (N := 11) ?hd (xs := ([a0] : List ByteArray)) (inner := [.string a0]) (ok := fun _ => True) (okp := fun _ => True) ?hr ?hp (fun _ hk => hk) trivial (Below.refl _ _) (Nat.le_refl _) (by simp) ?_; (case hd => rfl); (case hg => rfl); (case hr => first | (go_simp; done) | (go_simp; rfl)); (case hp => exact (Reps.one (show Kd.M Kd.string _ _ _ a0 [.string a0] from rfl) (Reps.none _ _))); intro v143 w10 ho11 hb hg_ hnew_; clear hg_ hnew_; (first | rw [← Ny142.out] at ho11 | (simp only [Int.reduceToNat] at ho11; rw [← Ny142.out] at ho11)); have n0_ := Aside0.mk (Kd.R_lower ho11 (below_size (by repeat (first | (with_reducible first | exact HB.out | apply below_alloc | apply pw_below_drewN | apply below_drew1) | exact HB.out)))); have n1_ := Aside0.mk (below_step (by repeat (first | (with_reducible first | exact HB.out | apply below_alloc | apply pw_below_drewN | apply below_drew1) | exact HB.out)) hb); clear HB; have HO144 := n0_; have HB := n1_; clear n0_ n1_; clear hb ho11; obtain ⟨Ao12, co12, eo12⟩ := Kd.R_slice HO144.out; subst eo12) | ((with_reducible refine gate_callee (f := 7) rfl ?_); refine goesL_ (some 12) rfl rfl Tryd.func7 (by kernel_rfl) rfl #[.slice Ao12 y142.length co12] rfl (by (try simp only [List.map_toArray, List.map_cons, List.map_nil]); first | done | rfl | (simp only [List.length_drop, List.length_take]; rfl)) ?_; (with_reducible refine (laws_short.calls k _ _ y142 false _ ?side1 ?side2 A4.out).mono ?_); (case side1 => repeat (first | exact (Kd.R_reads' HO144.out).2.2 | (with_reducible refine Kd.C_alloc ?_ _) | (with_reducible refine Kd.C_drewN ?_ _) | (with_reducible refine Kd.C_drew ?_))); (case side2 => exact (Kd.R_reads' HO144.out).2.1); rintro e w' ⟨rfl, ⟨nd, rfl⟩⟩; refine ⟨_, rfl, ?_⟩))
        go_meet
        case rel => exact ⟨_, (true), (by first | rfl | (simp; done) | (simp [*]; done) | (simp [bne_nil_]; done)), H', ⟨by first | omega | exact Nat.le_refl _⟩, ⟨by repeat (first | (with_reducible first | exact HB.out | apply below_alloc | apply pw_below_drewN | apply below_drew1) | exact HB.out)⟩⟩
    case rest =>
      clear HC3
      try clear c2
      try clear c2b0
      try clear c2b1
      try clear p2
      try clear c3
      try clear c5
      try clear c7
      obtain ⟨kq, x18_2, rfl, HA, HJ2, HB⟩ := hcut
      cases kq with
      | zero => exact absurd HA.out (by simp [laws_FnDebianParse.j0])
      | succ kj2 =>
        have H := HA.out
        clear HA
        simp only [laws_FnDebianParse.j0] at H
        by_cases c13 : x18_2 = true
        · subst c13
          have H1 : (some true) = some r := by rw [if_pos rfl] at H; exact H
          clear H
          have H := H1
          clear H1
          obtain rfl := Option.some.inj H
          go_wp2
          go_ret
          exact ⟨by first | rfl | (simp [errW_none, errW_some] <;> rfl) | (simp [*, errW_none, errW_some] <;> rfl) | (simp [bne_nil_]; done), by repeat (first | (with_reducible first | exact HB.out | apply below_alloc | apply pw_below_drewN | apply below_drew1) | exact HB.out)⟩
        · replace c13 := Bool.eq_false_iff.mpr c13
          subst c13
          have H1 : ((Giv.impl_DebianParse.f a0).bind fun bt147 => ((spec_DebianParse.f kj2 a0).bind fun bt153 => (if (bt147.2.2.2.2 == bt153.2.2.2.2) = true then (some ((bt147.1 == bt153.1 && (bt147.2.1.toList == bt153.2.1.toList)) && (bt147.2.2.1.toList == bt153.2.2.1.toList && (bt147.2.2.2.1.toList == bt153.2.2.2.1.toList)))) else (some false)))) = some r := by rw [if_neg (show ¬ (false = true) by decide)] at H; exact H
          clear H
          have H := H1
          clear H1
          replace H := Option.bind_eq_some_iff.mp H
          obtain ⟨⟨t147, t148, t149, t150, t151⟩, A140, H⟩ := H
          replace H : ((spec_DebianParse.f kj2 a0).bind fun bt153 => (if (t151 == bt153.2.2.2.2) = true then (some ((t147 == bt153.1 && (t148.toList == bt153.2.1.toList)) && (t149.toList == bt153.2.2.1.toList && (t150.toList == bt153.2.2.2.1.toList)))) else (some false))) = some r := H
          have A14 := Aside0.mk A140
          clear A140
          replace H := Option.bind_eq_some_iff.mp H
          obtain ⟨⟨t153, t154, t155, t156, t157⟩, A150, H⟩ := H
          replace H : (if (t151 == t157) = true then (some ((t147 == t153 && (t148.toList == t154.toList)) && (t149.toList == t155.toList && (t150.toList == t156.toList)))) else (some false)) = some r := H
          have A15 := Aside0.mk A150
          clear A150
          by_cases c16 : (t151 == t157) = true
          · rw [if_pos c16] at H
            have c16b0 : (t151 == t157) = true := c16
            (try (have c16b1 : decide (t151 = t157) = true := by simpa using c16))
            (try (have c16b2 : (t151 == t157) = true := by simpa using c16))
            clear c16
            obtain rfl := Option.some.inj H
            go_wp2_with (first | ((with_reducible refine gate_callee (f := 9) rfl ?_); refine goesL_ (some 21) rfl rfl Tryd.func9 (by kernel_rfl) rfl #[.string a0] rfl (by (try simp only [List.map_toArray, List.map_cons, List.map_nil]); first | done | rfl | (simp only [List.length_drop, List.length_take]; rfl)) ?_; (with_reducible refine (Giv.impl_DebianParse.calls a0 t147 t148 t149 t150 t151 _ A14.out (HLd.out.below (by repeat (first | (with_reducible first | exact HB.out | apply below_alloc | apply pw_below_drewN | apply below_drew1) | exact HB.out)))).mono ?_); rintro e w17 ⟨rfl, hb⟩; refine ⟨_, rfl, ?_⟩; have n0_ := Aside0.mk (below_step (by repeat (first | (with_reducible first | exact HB.out | apply below_alloc | apply pw_below_drewN | apply below_drew1) | exact HB.out)) hb); clear HB; have HB := n0_; clear n0_; (try clear hb); (try clear hb2); (try clear hk); (try clear hi)) | ((with_reducible refine gate_dst (N := 3) rfl ?_); refine box_event ?hg (N := 3) ?hd (cs := #[.bool false, .string (⟨#[]⟩ : ByteArray), .string (⟨#[]⟩ : ByteArray), .string (⟨#[]⟩ : ByteArray)]) (t := 27) ?hr ?_; (case hd => rfl); (case hg => rfl); (case hr => first | (go_simp; done) | (go_simp; rfl)); intro gb152 hg w18 hbox hb; have n0_ := Aside0.mk (below_step (by repeat (first | (with_reducible first | exact HB.out | apply below_alloc | apply pw_below_drewN | apply below_drew1) | exact HB.out)) hb); have n1_ := Aside0.mk (hbox); have n2_ := Aside0.mk ((by rw [hg]; exact (below_size (by repeat (first | (with_reducible first | exact HB.out | apply below_alloc | apply pw_below_drewN | apply below_drew1) | exact HB.out))) : w.heap.size ≤ gb152)); have n3_ := Aside0.mk ((by rw [hg]; exact (below_size (by repeat (first | (with_reducible first | exact HB.out | apply below_alloc | apply pw_below_drewN | apply below_drew1) | exact HB.out))) : w.heap.size ≤ gb152)); clear HB; have HB := n0_; have BK152 := n1_; have GW152 := n2_; have GE152 := n3_; clear n0_ n1_ n2_ n3_; clear hb hbox hg; have hcz19_0 : w18.cell? ⟨gb152, 0, none⟩ = some (.bool false) := (blk_cell BK152.out 0).trans rfl; have hcz19_1 : w18.cell? ⟨gb152, 1, none⟩ = some (.string (⟨#[]⟩ : ByteArray)) := (blk_cell BK152.out 1).trans rfl; have hcz19_2 : w18.cell? ⟨gb152, 2, none⟩ = some (.string (⟨#[]⟩ : ByteArray)) := (blk_cell BK152.out 2).trans rfl; have hcz19_3 : w18.cell? ⟨gb152, 3, none⟩ = some (.string (⟨#[]⟩ : ByteArray)) := (blk_cell BK152.out 3).trans rfl; have hfz19_0 := blk_frozen BK152.out 0; have hfz19_1 := blk_frozen BK152.out 1; have hfz19_2 := blk_frozen BK152.out 2; have hfz19_3 := blk_frozen BK152.out 3) | ((with_reducible refine gate_callee (f := 10) rfl ?_); refine goesL_ (some 26) rfl rfl Tryd.func10 (by kernel_rfl) rfl #[.string a0] rfl (by (try simp only [List.map_toArray, List.map_cons, List.map_nil]); first | done | rfl | (simp only [List.length_drop, List.length_take]; rfl)) ?_; (with_reducible refine (spec_DebianParse.calls kj2 a0 t153 t154 t155 t156 t157 _ A15.out).mono ?_); rintro e w20 ⟨rfl, hb⟩; refine ⟨_, rfl, ?_⟩; have n0_ := Aside0.mk (blk_below (g := gb152) (o := .cells #[.bool t147, .string t148, .string t149, .string t150] 27 (0, 0)) (by (with_reducible repeat (first | refine blk_drewN ?_ _ | refine blk_drew ?_ | refine blk_alloc ?_ _)); refine blk_put (cs := #[.bool t147, .string t148, .string t149, .string (⟨#[]⟩ : ByteArray)]) ?_ 3 _ rfl; (with_reducible repeat (first | refine blk_drewN ?_ _ | refine blk_drew ?_ | refine blk_alloc ?_ _)); refine blk_put (cs := #[.bool t147, .string t148, .string (⟨#[]⟩ : ByteArray), .string (⟨#[]⟩ : ByteArray)]) ?_ 2 _ rfl; (with_reducible repeat (first | refine blk_drewN ?_ _ | refine blk_drew ?_ | refine blk_alloc ?_ _)); refine blk_put (cs := #[.bool t147, .string (⟨#[]⟩ : ByteArray), .string (⟨#[]⟩ : ByteArray), .string (⟨#[]⟩ : ByteArray)]) ?_ 1 _ rfl; (with_reducible repeat (first | refine blk_drewN ?_ _ | refine blk_drew ?_ | refine blk_alloc ?_ _)); refine blk_put (cs := #[.bool false, .string (⟨#[]⟩ : ByteArray), .string (⟨#[]⟩ : ByteArray), .string (⟨#[]⟩ : ByteArray)]) ?_ 0 _ rfl; (with_reducible repeat (first | refine blk_drewN ?_ _ | refine blk_drew ?_ | refine blk_alloc ?_ _)); exact BK152.out) hb); have n1_ := Aside0.mk (below_step (by repeat (first | (with_reducible first | exact HB.out | apply below_alloc | apply pw_below_drewN | apply below_drew1 | refine below_set ?_ GE152.out) | exact HB.out)) hb); clear BK152; clear HB; have BK152 := n0_; have HB := n1_; clear n0_ n1_; (try clear hb); (try clear hb2); (try clear hk); (try clear hi)) | ((with_reducible refine gate_dst (N := 5) rfl ?_); refine box_event ?hg (N := 5) ?hd (cs := #[.bool false, .string (⟨#[]⟩ : ByteArray), .string (⟨#[]⟩ : ByteArray), .string (⟨#[]⟩ : ByteArray)]) (t := 27) ?hr ?_; (case hd => rfl); (case hg => rfl); (case hr => first | (go_simp; done) | (go_simp; rfl)); intro gb158 hg w21 hbox hb; have n0_ := Aside0.mk (blk_below (g := gb152) (o := .cells #[.bool t147, .string t148, .string t149, .string t150] 27 (0, 0)) (by (with_reducible repeat (first | refine blk_drewN ?_ _ | refine blk_drew ?_ | refine blk_alloc ?_ _)); exact BK152.out) hb); have n1_ := Aside0.mk (below_step (by repeat (first | (with_reducible first | exact HB.out | apply below_alloc | apply pw_below_drewN | apply below_drew1 | refine below_set ?_ GE152.out) | exact HB.out)) hb); have n2_ := Aside0.mk (hbox); have n3_ := Aside0.mk ((by rw [hg]; exact (below_size (by repeat (first | (with_reducible first | exact HB.out | apply below_alloc | apply pw_below_drewN | apply below_drew1 | refine below_set ?_ GE152.out) | exact HB.out))) : w.heap.size ≤ gb158)); have n4_ := Aside0.mk ((by rw [hg]; exact (below_size (by repeat (first | (with_reducible first | exact HB.out | apply below_alloc | apply pw_below_drewN | apply below_drew1 | refine below_set ?_ GE152.out) | exact HB.out))) : w.heap.size ≤ gb158)); have n5_ := Aside0.mk ((by rw [hg]; exact Nat.ne_of_lt (blk_lt (g := gb152) (o := .cells #[.bool t147, .string t148, .string t149, .string t150] 27 (0, 0)) (by (with_reducible repeat (first | refine blk_drewN ?_ _ | refine blk_drew ?_ | refine blk_alloc ?_ _)); exact BK152.out)) : gb152 ≠ gb158)); have n6_ := Aside0.mk ((by rw [hg]; exact Nat.ne_of_gt (blk_lt (g := gb152) (o := .cells #[.bool t147, .string t148, .string t149, .string t150] 27 (0, 0)) (by (with_reducible repeat (first | refine blk_drewN ?_ _ | refine blk_drew ?_ | refine blk_alloc ?_ _)); exact BK152.out)) : gb158 ≠ gb152)); clear BK152; clear HB; have BK152 := n0_; have HB := n1_; have BK158 := n2_; have GW158 := n3_; have GE158 := n4_; have NB152_158 := n5_; have NB158_152 := n6_; clear n0_ n1_ n2_ n3_ n4_ n5_ n6_; clear hb hbox hg; have hnb22 := NB158_152.out; have hnc22 := NB152_158.out; have hcz23_0 : w21.cell? ⟨gb158, 0, none⟩ = some (.bool false) := (blk_cell BK158.out 0).trans rfl; have hcz23_1 : w21.cell? ⟨gb158, 1, none⟩ = some (.string (⟨#[]⟩ : ByteArray)) := (blk_cell BK158.out 1).trans rfl; have hcz23_2 : w21.cell? ⟨gb158, 2, none⟩ = some (.string (⟨#[]⟩ : ByteArray)) := (blk_cell BK158.out 2).trans rfl; have hcz23_3 : w21.cell? ⟨gb158, 3, none⟩ = some (.string (⟨#[]⟩ : ByteArray)) := (blk_cell BK158.out 3).trans rfl; have hfz23_0 := blk_frozen BK158.out 0; have hfz23_1 := blk_frozen BK158.out 1; have hfz23_2 := blk_frozen BK158.out 2; have hfz23_3 := blk_frozen BK158.out 3; have hcz24_0 : w21.cell? ⟨gb152, 0, none⟩ = some (.bool t147) := (blk_cell BK152.out 0).trans rfl; have hcz24_1 : w21.cell? ⟨gb152, 1, none⟩ = some (.string t148) := (blk_cell BK152.out 1).trans rfl; have hcz24_2 : w21.cell? ⟨gb152, 2, none⟩ = some (.string t149) := (blk_cell BK152.out 2).trans rfl; have hcz24_3 : w21.cell? ⟨gb152, 3, none⟩ = some (.string t150) := (blk_cell BK152.out 3).trans rfl; have hfz24_0 := blk_frozen BK152.out 0; have hfz24_1 := blk_frozen BK152.out 1; have hfz24_2 := blk_frozen BK152.out 2; have hfz24_3 := blk_frozen BK152.out 3))
            go_ret
            exact ⟨by first | rfl | (simp [errW_none, errW_some] <;> rfl) | (simp [*, errW_none, errW_some] <;> rfl) | (simp [bne_nil_]; done), by repeat (first | (with_reducible first | exact HB.out | apply below_alloc | apply pw_below_drewN | apply below_drew1 | refine below_set ?_ GE152.out | refine below_set ?_ GE158.out) | exact HB.out)⟩
          · rw [if_neg c16] at H
            have c16b0 : (t151 == t157) = false := by simpa using c16
            (try (have c16b1 : decide (t151 = t157) = false := by simpa using c16))
            (try (have c16b2 : (t151 == t157) = false := by simpa using c16))
            (try (have c16b3 : ¬ (t151 = t157) := by simpa using c16))
            clear c16
            obtain rfl := Option.some.inj H
            go_wp2_with (first | ((with_reducible refine gate_callee (f := 9) rfl ?_); refine goesL_ (some 21) rfl rfl Tryd.func9 (by kernel_rfl) rfl #[.string a0] rfl (by (try simp only [List.map_toArray, List.map_cons, List.map_nil]); first | done | rfl | (simp only [List.length_drop, List.length_take]; rfl)) ?_; (with_reducible refine (Giv.impl_DebianParse.calls a0 t147 t148 t149 t150 t151 _ A14.out (HLd.out.below (by repeat (first | (with_reducible first | exact HB.out | apply below_alloc | apply pw_below_drewN | apply below_drew1) | exact HB.out)))).mono ?_); rintro e w25 ⟨rfl, hb⟩; refine ⟨_, rfl, ?_⟩; have n0_ := Aside0.mk (below_step (by repeat (first | (with_reducible first | exact HB.out | apply below_alloc | apply pw_below_drewN | apply below_drew1) | exact HB.out)) hb); clear HB; have HB := n0_; clear n0_; (try clear hb); (try clear hb2); (try clear hk); (try clear hi)) | ((with_reducible refine gate_dst (N := 3) rfl ?_); refine box_event ?hg (N := 3) ?hd (cs := #[.bool false, .string (⟨#[]⟩ : ByteArray), .string (⟨#[]⟩ : ByteArray), .string (⟨#[]⟩ : ByteArray)]) (t := 27) ?hr ?_; (case hd => rfl); (case hg => rfl); (case hr => first | (go_simp; done) | (go_simp; rfl)); intro gb152 hg w26 hbox hb; have n0_ := Aside0.mk (below_step (by repeat (first | (with_reducible first | exact HB.out | apply below_alloc | apply pw_below_drewN | apply below_drew1) | exact HB.out)) hb); have n1_ := Aside0.mk (hbox); have n2_ := Aside0.mk ((by rw [hg]; exact (below_size (by repeat (first | (with_reducible first | exact HB.out | apply below_alloc | apply pw_below_drewN | apply below_drew1) | exact HB.out))) : w.heap.size ≤ gb152)); have n3_ := Aside0.mk ((by rw [hg]; exact (below_size (by repeat (first | (with_reducible first | exact HB.out | apply below_alloc | apply pw_below_drewN | apply below_drew1) | exact HB.out))) : w.heap.size ≤ gb152)); clear HB; have HB := n0_; have BK152 := n1_; have GW152 := n2_; have GE152 := n3_; clear n0_ n1_ n2_ n3_; clear hb hbox hg; have hcz27_0 : w26.cell? ⟨gb152, 0, none⟩ = some (.bool false) := (blk_cell BK152.out 0).trans rfl; have hcz27_1 : w26.cell? ⟨gb152, 1, none⟩ = some (.string (⟨#[]⟩ : ByteArray)) := (blk_cell BK152.out 1).trans rfl; have hcz27_2 : w26.cell? ⟨gb152, 2, none⟩ = some (.string (⟨#[]⟩ : ByteArray)) := (blk_cell BK152.out 2).trans rfl; have hcz27_3 : w26.cell? ⟨gb152, 3, none⟩ = some (.string (⟨#[]⟩ : ByteArray)) := (blk_cell BK152.out 3).trans rfl; have hfz27_0 := blk_frozen BK152.out 0; have hfz27_1 := blk_frozen BK152.out 1; have hfz27_2 := blk_frozen BK152.out 2; have hfz27_3 := blk_frozen BK152.out 3) | ((with_reducible refine gate_callee (f := 10) rfl ?_); refine goesL_ (some 26) rfl rfl Tryd.func10 (by kernel_rfl) rfl #[.string a0] rfl (by (try simp only [List.map_toArray, List.map_cons, List.map_nil]); first | done | rfl | (simp only [List.length_drop, List.length_take]; rfl)) ?_; (with_reducible refine (spec_DebianParse.calls kj2 a0 t153 t154 t155 t156 t157 _ A15.out).mono ?_); rintro e w28 ⟨rfl, hb⟩; refine ⟨_, rfl, ?_⟩; have n0_ := Aside0.mk (blk_below (g := gb152) (o := .cells #[.bool t147, .string t148, .string t149, .string t150] 27 (0, 0)) (by (with_reducible repeat (first | refine blk_drewN ?_ _ | refine blk_drew ?_ | refine blk_alloc ?_ _)); refine blk_put (cs := #[.bool t147, .string t148, .string t149, .string (⟨#[]⟩ : ByteArray)]) ?_ 3 _ rfl; (with_reducible repeat (first | refine blk_drewN ?_ _ | refine blk_drew ?_ | refine blk_alloc ?_ _)); refine blk_put (cs := #[.bool t147, .string t148, .string (⟨#[]⟩ : ByteArray), .string (⟨#[]⟩ : ByteArray)]) ?_ 2 _ rfl; (with_reducible repeat (first | refine blk_drewN ?_ _ | refine blk_drew ?_ | refine blk_alloc ?_ _)); refine blk_put (cs := #[.bool t147, .string (⟨#[]⟩ : ByteArray), .string (⟨#[]⟩ : ByteArray), .string (⟨#[]⟩ : ByteArray)]) ?_ 1 _ rfl; (with_reducible repeat (first | refine blk_drewN ?_ _ | refine blk_drew ?_ | refine blk_alloc ?_ _)); refine blk_put (cs := #[.bool false, .string (⟨#[]⟩ : ByteArray), .string (⟨#[]⟩ : ByteArray), .string (⟨#[]⟩ : ByteArray)]) ?_ 0 _ rfl; (with_reducible repeat (first | refine blk_drewN ?_ _ | refine blk_drew ?_ | refine blk_alloc ?_ _)); exact BK152.out) hb); have n1_ := Aside0.mk (below_step (by repeat (first | (with_reducible first | exact HB.out | apply below_alloc | apply pw_below_drewN | apply below_drew1 | refine below_set ?_ GE152.out) | exact HB.out)) hb); clear BK152; clear HB; have BK152 := n0_; have HB := n1_; clear n0_ n1_; (try clear hb); (try clear hb2); (try clear hk); (try clear hi)) | ((with_reducible refine gate_dst (N := 5) rfl ?_); refine box_event ?hg (N := 5) ?hd (cs := #[.bool false, .string (⟨#[]⟩ : ByteArray), .string (⟨#[]⟩ : ByteArray), .string (⟨#[]⟩ : ByteArray)]) (t := 27) ?hr ?_; (case hd => rfl); (case hg => rfl); (case hr => first | (go_simp; done) | (go_simp; rfl)); intro gb158 hg w29 hbox hb; have n0_ := Aside0.mk (blk_below (g := gb152) (o := .cells #[.bool t147, .string t148, .string t149, .string t150] 27 (0, 0)) (by (with_reducible repeat (first | refine blk_drewN ?_ _ | refine blk_drew ?_ | refine blk_alloc ?_ _)); exact BK152.out) hb); have n1_ := Aside0.mk (below_step (by repeat (first | (with_reducible first | exact HB.out | apply below_alloc | apply pw_below_drewN | apply below_drew1 | refine below_set ?_ GE152.out) | exact HB.out)) hb); have n2_ := Aside0.mk (hbox); have n3_ := Aside0.mk ((by rw [hg]; exact (below_size (by repeat (first | (with_reducible first | exact HB.out | apply below_alloc | apply pw_below_drewN | apply below_drew1 | refine below_set ?_ GE152.out) | exact HB.out))) : w.heap.size ≤ gb158)); have n4_ := Aside0.mk ((by rw [hg]; exact (below_size (by repeat (first | (with_reducible first | exact HB.out | apply below_alloc | apply pw_below_drewN | apply below_drew1 | refine below_set ?_ GE152.out) | exact HB.out))) : w.heap.size ≤ gb158)); have n5_ := Aside0.mk ((by rw [hg]; exact Nat.ne_of_lt (blk_lt (g := gb152) (o := .cells #[.bool t147, .string t148, .string t149, .string t150] 27 (0, 0)) (by (with_reducible repeat (first | refine blk_drewN ?_ _ | refine blk_drew ?_ | refine blk_alloc ?_ _)); exact BK152.out)) : gb152 ≠ gb158)); have n6_ := Aside0.mk ((by rw [hg]; exact Nat.ne_of_gt (blk_lt (g := gb152) (o := .cells #[.bool t147, .string t148, .string t149, .string t150] 27 (0, 0)) (by (with_reducible repeat (first | refine blk_drewN ?_ _ | refine blk_drew ?_ | refine blk_alloc ?_ _)); exact BK152.out)) : gb158 ≠ gb152)); clear BK152; clear HB; have BK152 := n0_; have HB := n1_; have BK158 := n2_; have GW158 := n3_; have GE158 := n4_; have NB152_158 := n5_; have NB158_152 := n6_; clear n0_ n1_ n2_ n3_ n4_ n5_ n6_; clear hb hbox hg; have hnb30 := NB158_152.out; have hnc30 := NB152_158.out; have hcz31_0 : w29.cell? ⟨gb158, 0, none⟩ = some (.bool false) := (blk_cell BK158.out 0).trans rfl; have hcz31_1 : w29.cell? ⟨gb158, 1, none⟩ = some (.string (⟨#[]⟩ : ByteArray)) := (blk_cell BK158.out 1).trans rfl; have hcz31_2 : w29.cell? ⟨gb158, 2, none⟩ = some (.string (⟨#[]⟩ : ByteArray)) := (blk_cell BK158.out 2).trans rfl; have hcz31_3 : w29.cell? ⟨gb158, 3, none⟩ = some (.string (⟨#[]⟩ : ByteArray)) := (blk_cell BK158.out 3).trans rfl; have hfz31_0 := blk_frozen BK158.out 0; have hfz31_1 := blk_frozen BK158.out 1; have hfz31_2 := blk_frozen BK158.out 2; have hfz31_3 := blk_frozen BK158.out 3))
            go_ret
            exact ⟨by first | rfl | (simp [errW_none, errW_some] <;> rfl) | (simp [*, errW_none, errW_some] <;> rfl) | (simp [bne_nil_]; done), by repeat (first | (with_reducible first | exact HB.out | apply below_alloc | apply pw_below_drewN | apply below_drew1 | refine below_set ?_ GE152.out | refine below_set ?_ GE158.out) | exact HB.out)⟩

/-- THE ONE PURE STATEMENT of laws_FnDebianParse: yours. -/
def laws_FnDebianParse.Pure : Prop := ∀ (a0 : ByteArray), a0.size ≤ 140737488351232 → ∃ k, laws_FnDebianParse.f k a0 = some true

end Go.Proofs.YtffcbcihnoaikaaDoor.QE
