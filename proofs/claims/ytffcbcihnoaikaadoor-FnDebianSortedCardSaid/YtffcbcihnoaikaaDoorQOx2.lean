-- Written by a working copy of the kit's print program, turned at a few places by wip/tool/mkprint.py. Lean checks it.
import Derived.Test.YtffcbcihnoaikaaDoorQOx0
import Derived.Test.YtffcbcihnoaikaaDoorWTab
import Derived.Test.YtffcbcihnoaikaaDoorQOx1
namespace Go.Proofs.YtffcbcihnoaikaaDoor.QO
open Go.RowKit Go.Proofs.YtffcbcihnoaikaaDoorW.PrintWords Go.Proofs.YtffcbcihnoaikaaDoorW.PrintLast Go.Proofs.YtffcbcihnoaikaaDoorW.PrintMore
attribute [local go_sem] max2_int min2_int max_two min_two max_three min_three max_four min_four   -- for this text's walks alone
set_option linter.unusedVariables false
set_option linter.unusedSimpArgs false

/-! ### spec_lastOf: function 22 -/
def spec_lastOf.l0 : Nat → ByteArray → Int → Int → Int → Option (Int)
 | 0, _, _, _, _ => none
 | k + 1, x0, x1, x5, x6 => if x6 < (x0.size : Int) then (if 0 ≤ x6 then (if (bt x0 x6) = x1 then (spec_lastOf.l0 k x0 x1 x6 (wrap64 (x6 + 1))) else (spec_lastOf.l0 k x0 x1 x5 (wrap64 (x6 + 1)))) else (none)) else (some x5)
def spec_lastOf.f (k : Nat) (a0 : ByteArray) (a1 : Int) : Option (Int) := spec_lastOf.l0 k a0 a1 (-1) 0
theorem spec_lastOf.mono_l : ∀ k, (∀ y0 y1 y2 y3, LeO (spec_lastOf.l0 k y0 y1 y2 y3) (spec_lastOf.l0 (k + 1) y0 y1 y2 y3))
 | 0 => fun _ _ _ _ r h => by simp [spec_lastOf.l0] at h
 | k + 1 => by
  have ih0 := spec_lastOf.mono_l k
  · intro y0 y1 y2 y3
    unfold spec_lastOf.l0
    repeat' first
    | (with_reducible exact ih0 _ _ _ _)
    | (with_reducible exact LeO.refl _)
    | (with_reducible exact LeO.none _)
    | (with_reducible refine LeO.ite ?_ ?_)
    | (with_reducible refine LeO.bind ?_ (fun _ => ?_))
    | exact ih0 _ _ _ _
    | exact LeO.none _
    | refine LeO.ite ?_ ?_
    | refine LeO.bind ?_ (fun _ => ?_)
theorem spec_lastOf.mono : ∀ a0 a1 k, LeO (spec_lastOf.f k a0 a1) (spec_lastOf.f (k + 1) a0 a1) := by
 intro a0 a1 k
 have ih0 := spec_lastOf.mono_l k
 unfold spec_lastOf.f
 repeat' first
  | (with_reducible exact ih0 _ _ _ _)
  | (with_reducible exact LeO.refl _)
  | (with_reducible exact LeO.none _)
  | (with_reducible refine LeO.ite ?_ ?_)
  | (with_reducible refine LeO.bind ?_ (fun _ => ?_))
  | exact ih0 _ _ _ _
  | exact LeO.none _
  | refine LeO.ite ?_ ?_
  | refine LeO.bind ?_ (fun _ => ?_)
set_option maxHeartbeats 8000000 in
set_option maxRecDepth 100000 in
theorem spec_lastOf.calls (k : Nat) (a0 : ByteArray) (a1 : Int) (r : Int) (w : World) (h : spec_lastOf.f k a0 a1 = some r) :
 Calls Tryd.prog 22 #[.string a0, .int .u8 a1] w fun e w' => e = .returned (.int .i64 r) ∧ Drawn0 w w' := by
 have H : (spec_lastOf.l0 k a0 a1 (-1) 0) = some r := h
 clear h
 have H' := Aside0.mk H
 clear H
 go_enter Tryd.func22, Tryd.ntmps22
 go_wp2
 go_loopg [5, 6] k (fun kq v5 v6 w' => ∃ (x5_1 : Int) (x6_1 : Int), v5 = .int .i64 x5_1 ∧ v6 = .int .i64 x6_1 ∧ Aside0 (spec_lastOf.l0 kq a0 a1 x5_1 x6_1 = some r) ∧ Aside0 (kq ≤ k) ∧ Drawn0 w w')
 case atStart => exact ⟨((-1)), (0), (by first | rfl | (simp; done) | (simp [*]; done) | (simp [bne_nil_]; done)), (by first | rfl | (simp; done) | (simp [*]; done) | (simp [bne_nil_]; done)), H', ⟨Nat.le_refl _⟩, by repeat (first | exact Drawn0.refl _ | apply Drawn0.step)⟩
 case round =>
  clear H'
  try clear c2
  try clear p2
  obtain ⟨x5_1, x6_1, rfl, rfl, HA, HK1, ⟨m1, rfl⟩⟩ := hrel
  cases gk with
  | zero => exact absurd HA.out (by simp [spec_lastOf.l0])
  | succ k1 =>
   have H := HA.out
   clear HA
   simp only [spec_lastOf.l0] at H
   by_cases c3 : x6_1 < (a0.size : Int)
   · rw [if_pos c3] at H
     have c3b0 : decide (x6_1 < (a0.size : Int)) = true := decide_eq_true c3
     clear c3
     by_cases c4 : 0 ≤ x6_1
     · rw [if_pos c4] at H
       have c4b0 : decide (0 ≤ x6_1) = true := decide_eq_true c4
       clear c4
       by_cases c6 : (bt a0 x6_1) = a1
       · rw [if_pos c6] at H
         have c6b0 : ((bt a0 x6_1) == a1) = true := beq_iff_eq.mpr c6
         have c6b1 : ((bt a0 x6_1) != a1) = false := bne_eq_false_iff_eq.mpr c6
         clear c6
         have H' := Aside0.mk H
         clear H
         have p5 : 0 ≤ (x6_1 : Int) := of_decide_eq_true (by first | (with_reducible assumption) | assumption)
         have q5 : x6_1 < (a0.size : Int) := of_decide_eq_true (by first | (with_reducible assumption) | assumption)
         have hx5 := bt_at a0 x6_1
         replace p5 := eq_true p5
         replace q5 := eq_true q5
         go_wp2
         go_roundg k1
         case measure => have := HK1.out; omega
         case rel => exact ⟨(x6_1), (wrap64 (x6_1 + 1)), (by first | rfl | (simp; done) | (simp [*]; done) | (simp [bne_nil_]; done)), (by first | rfl | (simp; done) | (simp [*]; done) | (simp [bne_nil_]; done)), H', ⟨by have := HK1.out; omega⟩, by repeat (first | exact Drawn0.refl _ | apply Drawn0.step)⟩
       · rw [if_neg c6] at H
         have c6b0 : ((bt a0 x6_1) == a1) = false := beq_eq_false_iff_ne.mpr c6
         have c6b1 : ((bt a0 x6_1) != a1) = true := bne_iff_ne.mpr c6
         have H' := Aside0.mk H
         clear H
         have p5 : 0 ≤ (x6_1 : Int) := of_decide_eq_true (by first | (with_reducible assumption) | assumption)
         have q5 : x6_1 < (a0.size : Int) := of_decide_eq_true (by first | (with_reducible assumption) | assumption)
         have hx5 := bt_at a0 x6_1
         replace p5 := eq_true p5
         replace q5 := eq_true q5
         go_wp2
         go_roundg k1
         case measure => have := HK1.out; omega
         case rel => exact ⟨(x5_1), (wrap64 (x6_1 + 1)), (by first | rfl | (simp; done) | (simp [*]; done) | (simp [bne_nil_]; done)), (by first | rfl | (simp; done) | (simp [*]; done) | (simp [bne_nil_]; done)), H', ⟨by have := HK1.out; omega⟩, by repeat (first | exact Drawn0.refl _ | apply Drawn0.step)⟩
     · rw [if_neg c4] at H
       exact absurd H (by simp)
   · rw [if_neg c3] at H
     have c3b0 : decide (x6_1 < (a0.size : Int)) = false := decide_eq_false c3
     clear c3
     obtain rfl := Option.some.inj H
     go_wp2
     go_ret
     exact ⟨by first | rfl | (simp; done) | (simp [*]; done) | (simp [bne_nil_]; done), by repeat (first | exact Drawn0.refl _ | apply Drawn0.step)⟩

/-! ### spec_DebianParse: function 10 -/
def spec_DebianParse.f (k : Nat) (a0 : ByteArray) : Option (Bool × ByteArray × ByteArray × ByteArray × Bool) := (spec_debTrim.f k a0).bind fun t133 => ((spec_indexOf.f k t133 58).bind fun t134 => (if t134 ≥ 0 then (if 0 ≤ t134 then (if t134 ≤ (t133.size : Int) then ((spec_Number.f k (t133.extract 0 (t134 : Int).toNat)).bind fun bt135 => (if bt135.2.2 = true then (if 0 ≤ (wrap64 (t134 + 1)) then (if (wrap64 (t134 + 1)) ≤ (t133.size : Int) then ((spec_lastOf.f k (t133.extract ((wrap64 (t134 + 1)) : Int).toNat t133.size) 45).bind fun t138 => (if t138 ≥ 0 then (if 0 ≤ t138 then (if t138 ≤ ((t133.extract ((wrap64 (t134 + 1)) : Int).toNat t133.size).size : Int) then (if 0 ≤ (wrap64 (t138 + 1)) then (if (wrap64 (t138 + 1)) ≤ ((t133.extract ((wrap64 (t134 + 1)) : Int).toNat t133.size).size : Int) then (some (bt135.1, bt135.2.1, (t133.extract ((wrap64 (t134 + 1)) : Int).toNat t133.size).extract 0 (t138 : Int).toNat, (t133.extract ((wrap64 (t134 + 1)) : Int).toNat t133.size).extract ((wrap64 (t138 + 1)) : Int).toNat (t133.size - ((wrap64 (t134 + 1)) : Int).toNat), true)) else (none)) else (none)) else (none)) else (none)) else (some (bt135.1, bt135.2.1, t133.extract ((wrap64 (t134 + 1)) : Int).toNat t133.size, (⟨#[48]⟩ : ByteArray), true)))) else (none)) else (none)) else (some (false, (⟨#[]⟩ : ByteArray), (⟨#[]⟩ : ByteArray), (⟨#[]⟩ : ByteArray), false)))) else (none)) else (none)) else ((spec_lastOf.f k t133 45).bind fun t139 => (if t139 ≥ 0 then (if 0 ≤ t139 then (if t139 ≤ (t133.size : Int) then (if 0 ≤ (wrap64 (t139 + 1)) then (if (wrap64 (t139 + 1)) ≤ (t133.size : Int) then (some (false, (⟨#[]⟩ : ByteArray), t133.extract 0 (t139 : Int).toNat, t133.extract ((wrap64 (t139 + 1)) : Int).toNat t133.size, true)) else (none)) else (none)) else (none)) else (none)) else (some (false, (⟨#[]⟩ : ByteArray), t133, (⟨#[48]⟩ : ByteArray), true))))))
theorem spec_DebianParse.mono : ∀ a0 k, LeO (spec_DebianParse.f k a0) (spec_DebianParse.f (k + 1) a0) := by
 intro a0 k
 unfold spec_DebianParse.f
 repeat' first
  | (with_reducible exact spec_Number.mono _ _)
  | (with_reducible exact spec_debTrim.mono _ _)
  | (with_reducible exact spec_indexOf.mono _ _ _)
  | (with_reducible exact spec_lastOf.mono _ _ _)
  | (with_reducible exact LeO.refl _)
  | (with_reducible exact LeO.none _)
  | (with_reducible refine LeO.ite ?_ ?_)
  | (with_reducible refine LeO.bind ?_ (fun _ => ?_))
  | exact spec_Number.mono _ _
  | exact spec_debTrim.mono _ _
  | exact spec_indexOf.mono _ _ _
  | exact spec_lastOf.mono _ _ _
  | exact LeO.none _
  | refine LeO.ite ?_ ?_
  | refine LeO.bind ?_ (fun _ => ?_)
def spec_DebianParse.T11 : Bool × List (List Nat × List Nat) := (true, [([], []), ([], []), ([0, 1], [0, 1]), ([], []), ([], []), ([4], [4]), ([3, 5], [3, 5]), ([0, 1, 2], []), ([7, 2, 0, 1, 2], [2, 7]), ([0, 1, 2, 3, 4, 5, 6, 7, 8], []), ([9, 6, 8, 0, 1, 2, 3, 4, 5, 6, 7, 8], [6, 9])])
def spec_DebianParse.B11 : List Nat := [0, 0, 3, 0, 0, 16, 56, 7, 135, 511, 1023]
theorem spec_DebianParse.tab11 : rtab .any (opsOf Tryd.f10 11) = spec_DebianParse.T11 := by kernel_rfl
theorem spec_DebianParse.bits11 : waitsOk spec_DebianParse.T11.2 spec_DebianParse.B11 = true := by kernel_rfl
set_option maxHeartbeats 8000000 in
set_option maxRecDepth 100000 in
theorem spec_DebianParse.calls (k : Nat) (a0 : ByteArray) (r1 : Bool) (r2 : ByteArray) (r3 : ByteArray) (r4 : ByteArray) (r5 : Bool) (w : World) (h : spec_DebianParse.f k a0 = some (r1, r2, r3, r4, r5)) :
 Calls Tryd.prog 10 #[.string a0] w fun e w' => e = .returned (.tuple #[.agg #[.bool r1, .string r2, .string r3, .string r4], .bool r5]) ∧ Below w.heap.size w w' := by
 have hu27 := Tryd.underlying27
 have hu25 := Tryd.underlying25
 have HB := Aside0.mk (Below.refl w.heap.size w)
 have H : ((spec_debTrim.f k a0).bind fun t133 => ((spec_indexOf.f k t133 58).bind fun t134 => (if t134 ≥ 0 then (if 0 ≤ t134 then (if t134 ≤ (t133.size : Int) then ((spec_Number.f k (t133.extract 0 (t134 : Int).toNat)).bind fun bt135 => (if bt135.2.2 = true then (if 0 ≤ (wrap64 (t134 + 1)) then (if (wrap64 (t134 + 1)) ≤ (t133.size : Int) then ((spec_lastOf.f k (t133.extract ((wrap64 (t134 + 1)) : Int).toNat t133.size) 45).bind fun t138 => (if t138 ≥ 0 then (if 0 ≤ t138 then (if t138 ≤ ((t133.extract ((wrap64 (t134 + 1)) : Int).toNat t133.size).size : Int) then (if 0 ≤ (wrap64 (t138 + 1)) then (if (wrap64 (t138 + 1)) ≤ ((t133.extract ((wrap64 (t134 + 1)) : Int).toNat t133.size).size : Int) then (some (bt135.1, bt135.2.1, (t133.extract ((wrap64 (t134 + 1)) : Int).toNat t133.size).extract 0 (t138 : Int).toNat, (t133.extract ((wrap64 (t134 + 1)) : Int).toNat t133.size).extract ((wrap64 (t138 + 1)) : Int).toNat (t133.size - ((wrap64 (t134 + 1)) : Int).toNat), true)) else (none)) else (none)) else (none)) else (none)) else (some (bt135.1, bt135.2.1, t133.extract ((wrap64 (t134 + 1)) : Int).toNat t133.size, (⟨#[48]⟩ : ByteArray), true)))) else (none)) else (none)) else (some (false, (⟨#[]⟩ : ByteArray), (⟨#[]⟩ : ByteArray), (⟨#[]⟩ : ByteArray), false)))) else (none)) else (none)) else ((spec_lastOf.f k t133 45).bind fun t139 => (if t139 ≥ 0 then (if 0 ≤ t139 then (if t139 ≤ (t133.size : Int) then (if 0 ≤ (wrap64 (t139 + 1)) then (if (wrap64 (t139 + 1)) ≤ (t133.size : Int) then (some (false, (⟨#[]⟩ : ByteArray), t133.extract 0 (t139 : Int).toNat, t133.extract ((wrap64 (t139 + 1)) : Int).toNat t133.size, true)) else (none)) else (none)) else (none)) else (none)) else (some (false, (⟨#[]⟩ : ByteArray), t133, (⟨#[48]⟩ : ByteArray), true))))))) = some (r1, r2, r3, r4, r5) := h
 clear h
 replace H := Option.bind_eq_some_iff.mp H
 obtain ⟨t133, A20, H⟩ := H
 replace H : ((spec_indexOf.f k t133 58).bind fun t134 => (if t134 ≥ 0 then (if 0 ≤ t134 then (if t134 ≤ (t133.size : Int) then ((spec_Number.f k (t133.extract 0 (t134 : Int).toNat)).bind fun bt135 => (if bt135.2.2 = true then (if 0 ≤ (wrap64 (t134 + 1)) then (if (wrap64 (t134 + 1)) ≤ (t133.size : Int) then ((spec_lastOf.f k (t133.extract ((wrap64 (t134 + 1)) : Int).toNat t133.size) 45).bind fun t138 => (if t138 ≥ 0 then (if 0 ≤ t138 then (if t138 ≤ ((t133.extract ((wrap64 (t134 + 1)) : Int).toNat t133.size).size : Int) then (if 0 ≤ (wrap64 (t138 + 1)) then (if (wrap64 (t138 + 1)) ≤ ((t133.extract ((wrap64 (t134 + 1)) : Int).toNat t133.size).size : Int) then (some (bt135.1, bt135.2.1, (t133.extract ((wrap64 (t134 + 1)) : Int).toNat t133.size).extract 0 (t138 : Int).toNat, (t133.extract ((wrap64 (t134 + 1)) : Int).toNat t133.size).extract ((wrap64 (t138 + 1)) : Int).toNat (t133.size - ((wrap64 (t134 + 1)) : Int).toNat), true)) else (none)) else (none)) else (none)) else (none)) else (some (bt135.1, bt135.2.1, t133.extract ((wrap64 (t134 + 1)) : Int).toNat t133.size, (⟨#[48]⟩ : ByteArray), true)))) else (none)) else (none)) else (some (false, (⟨#[]⟩ : ByteArray), (⟨#[]⟩ : ByteArray), (⟨#[]⟩ : ByteArray), false)))) else (none)) else (none)) else ((spec_lastOf.f k t133 45).bind fun t139 => (if t139 ≥ 0 then (if 0 ≤ t139 then (if t139 ≤ (t133.size : Int) then (if 0 ≤ (wrap64 (t139 + 1)) then (if (wrap64 (t139 + 1)) ≤ (t133.size : Int) then (some (false, (⟨#[]⟩ : ByteArray), t133.extract 0 (t139 : Int).toNat, t133.extract ((wrap64 (t139 + 1)) : Int).toNat t133.size, true)) else (none)) else (none)) else (none)) else (none)) else (some (false, (⟨#[]⟩ : ByteArray), t133, (⟨#[48]⟩ : ByteArray), true)))))) = some (r1, r2, r3, r4, r5) := H
 have A2 := Aside0.mk A20
 clear A20
 replace H := Option.bind_eq_some_iff.mp H
 obtain ⟨t134, A30, H⟩ := H
 replace H : (if t134 ≥ 0 then (if 0 ≤ t134 then (if t134 ≤ (t133.size : Int) then ((spec_Number.f k (t133.extract 0 (t134 : Int).toNat)).bind fun bt135 => (if bt135.2.2 = true then (if 0 ≤ (wrap64 (t134 + 1)) then (if (wrap64 (t134 + 1)) ≤ (t133.size : Int) then ((spec_lastOf.f k (t133.extract ((wrap64 (t134 + 1)) : Int).toNat t133.size) 45).bind fun t138 => (if t138 ≥ 0 then (if 0 ≤ t138 then (if t138 ≤ ((t133.extract ((wrap64 (t134 + 1)) : Int).toNat t133.size).size : Int) then (if 0 ≤ (wrap64 (t138 + 1)) then (if (wrap64 (t138 + 1)) ≤ ((t133.extract ((wrap64 (t134 + 1)) : Int).toNat t133.size).size : Int) then (some (bt135.1, bt135.2.1, (t133.extract ((wrap64 (t134 + 1)) : Int).toNat t133.size).extract 0 (t138 : Int).toNat, (t133.extract ((wrap64 (t134 + 1)) : Int).toNat t133.size).extract ((wrap64 (t138 + 1)) : Int).toNat (t133.size - ((wrap64 (t134 + 1)) : Int).toNat), true)) else (none)) else (none)) else (none)) else (none)) else (some (bt135.1, bt135.2.1, t133.extract ((wrap64 (t134 + 1)) : Int).toNat t133.size, (⟨#[48]⟩ : ByteArray), true)))) else (none)) else (none)) else (some (false, (⟨#[]⟩ : ByteArray), (⟨#[]⟩ : ByteArray), (⟨#[]⟩ : ByteArray), false)))) else (none)) else (none)) else ((spec_lastOf.f k t133 45).bind fun t139 => (if t139 ≥ 0 then (if 0 ≤ t139 then (if t139 ≤ (t133.size : Int) then (if 0 ≤ (wrap64 (t139 + 1)) then (if (wrap64 (t139 + 1)) ≤ (t133.size : Int) then (some (false, (⟨#[]⟩ : ByteArray), t133.extract 0 (t139 : Int).toNat, t133.extract ((wrap64 (t139 + 1)) : Int).toNat t133.size, true)) else (none)) else (none)) else (none)) else (none)) else (some (false, (⟨#[]⟩ : ByteArray), t133, (⟨#[48]⟩ : ByteArray), true))))) = some (r1, r2, r3, r4, r5) := H
 have A3 := Aside0.mk A30
 clear A30
 by_cases c4 : t134 ≥ 0
 · rw [if_pos c4] at H
   have c4b0 : decide (0 ≤ t134) = true := decide_eq_true c4
   clear c4
   by_cases c5 : 0 ≤ t134
   · rw [if_pos c5] at H
     have c5b0 := eq_true c5
     have c5b1 : decide (0 ≤ t134) = true := decide_eq_true c5
     clear c5
     by_cases c6 : t134 ≤ (t133.size : Int)
     · rw [if_pos c6] at H
       have c6b0 := eq_true c6
       have c6b1 : decide (t134 ≤ (t133.size : Int)) = true := decide_eq_true c6
       clear c6
       replace H := Option.bind_eq_some_iff.mp H
       obtain ⟨⟨t135, t136, t137⟩, A70, H⟩ := H
       replace H : (if t137 = true then (if 0 ≤ (wrap64 (t134 + 1)) then (if (wrap64 (t134 + 1)) ≤ (t133.size : Int) then ((spec_lastOf.f k (t133.extract ((wrap64 (t134 + 1)) : Int).toNat t133.size) 45).bind fun t138 => (if t138 ≥ 0 then (if 0 ≤ t138 then (if t138 ≤ ((t133.extract ((wrap64 (t134 + 1)) : Int).toNat t133.size).size : Int) then (if 0 ≤ (wrap64 (t138 + 1)) then (if (wrap64 (t138 + 1)) ≤ ((t133.extract ((wrap64 (t134 + 1)) : Int).toNat t133.size).size : Int) then (some (t135, t136, (t133.extract ((wrap64 (t134 + 1)) : Int).toNat t133.size).extract 0 (t138 : Int).toNat, (t133.extract ((wrap64 (t134 + 1)) : Int).toNat t133.size).extract ((wrap64 (t138 + 1)) : Int).toNat (t133.size - ((wrap64 (t134 + 1)) : Int).toNat), true)) else (none)) else (none)) else (none)) else (none)) else (some (t135, t136, t133.extract ((wrap64 (t134 + 1)) : Int).toNat t133.size, (⟨#[48]⟩ : ByteArray), true)))) else (none)) else (none)) else (some (false, (⟨#[]⟩ : ByteArray), (⟨#[]⟩ : ByteArray), (⟨#[]⟩ : ByteArray), false))) = some (r1, r2, r3, r4, r5) := H
       have A7 := Aside0.mk A70
       clear A70
       by_cases c8 : t137 = true
       · subst c8
         have H1 : (if 0 ≤ (wrap64 (t134 + 1)) then (if (wrap64 (t134 + 1)) ≤ (t133.size : Int) then ((spec_lastOf.f k (t133.extract ((wrap64 (t134 + 1)) : Int).toNat t133.size) 45).bind fun t138 => (if t138 ≥ 0 then (if 0 ≤ t138 then (if t138 ≤ ((t133.extract ((wrap64 (t134 + 1)) : Int).toNat t133.size).size : Int) then (if 0 ≤ (wrap64 (t138 + 1)) then (if (wrap64 (t138 + 1)) ≤ ((t133.extract ((wrap64 (t134 + 1)) : Int).toNat t133.size).size : Int) then (some (t135, t136, (t133.extract ((wrap64 (t134 + 1)) : Int).toNat t133.size).extract 0 (t138 : Int).toNat, (t133.extract ((wrap64 (t134 + 1)) : Int).toNat t133.size).extract ((wrap64 (t138 + 1)) : Int).toNat (t133.size - ((wrap64 (t134 + 1)) : Int).toNat), true)) else (none)) else (none)) else (none)) else (none)) else (some (t135, t136, t133.extract ((wrap64 (t134 + 1)) : Int).toNat t133.size, (⟨#[48]⟩ : ByteArray), true)))) else (none)) else (none)) = some (r1, r2, r3, r4, r5) := by rw [if_pos rfl] at H; exact H
         clear H
         have H := H1
         clear H1
         obtain ⟨ji9, hji9⟩ : ∃ j_ : Int, (wrap64 (t134 + 1)) = j_ := ⟨_, rfl⟩
         replace H : (if 0 ≤ (ji9) then (if (ji9) ≤ (t133.size : Int) then ((spec_lastOf.f k (t133.extract ((ji9) : Int).toNat t133.size) 45).bind fun t138 => (if t138 ≥ 0 then (if 0 ≤ t138 then (if t138 ≤ ((t133.extract ((ji9) : Int).toNat t133.size).size : Int) then (if 0 ≤ (wrap64 (t138 + 1)) then (if (wrap64 (t138 + 1)) ≤ ((t133.extract ((ji9) : Int).toNat t133.size).size : Int) then (some (t135, t136, (t133.extract ((ji9) : Int).toNat t133.size).extract 0 (t138 : Int).toNat, (t133.extract ((ji9) : Int).toNat t133.size).extract ((wrap64 (t138 + 1)) : Int).toNat (t133.size - ((ji9) : Int).toNat), true)) else (none)) else (none)) else (none)) else (none)) else (some (t135, t136, t133.extract ((ji9) : Int).toNat t133.size, (⟨#[48]⟩ : ByteArray), true)))) else (none)) else (none)) = some (r1, r2, r3, r4, r5) := by first | (rw [hji9] at H; exact H) | (simp only [hji9] at H ⊢; exact H)
         (try rw [hji9] at A2)
         (try rw [hji9] at A3)
         (try rw [hji9] at A7)
         have hji9w : (IntKind.i64.wrap (t134 + 1)) = ji9 := (i64_w _).trans hji9
         by_cases c10 : 0 ≤ (ji9)
         · rw [if_pos c10] at H
           have c10b0 := eq_true c10
           have c10b1 : decide (0 ≤ (ji9)) = true := decide_eq_true c10
           clear c10
           by_cases c11 : (ji9) ≤ (t133.size : Int)
           · rw [if_pos c11] at H
             have c11b0 := eq_true c11
             have c11b1 : decide ((ji9) ≤ (t133.size : Int)) = true := decide_eq_true c11
             clear c11
             replace H := Option.bind_eq_some_iff.mp H
             obtain ⟨t138, A120, H⟩ := H
             replace H : (if t138 ≥ 0 then (if 0 ≤ t138 then (if t138 ≤ ((t133.extract ((ji9) : Int).toNat t133.size).size : Int) then (if 0 ≤ (wrap64 (t138 + 1)) then (if (wrap64 (t138 + 1)) ≤ ((t133.extract ((ji9) : Int).toNat t133.size).size : Int) then (some (t135, t136, (t133.extract ((ji9) : Int).toNat t133.size).extract 0 (t138 : Int).toNat, (t133.extract ((ji9) : Int).toNat t133.size).extract ((wrap64 (t138 + 1)) : Int).toNat (t133.size - ((ji9) : Int).toNat), true)) else (none)) else (none)) else (none)) else (none)) else (some (t135, t136, t133.extract ((ji9) : Int).toNat t133.size, (⟨#[48]⟩ : ByteArray), true))) = some (r1, r2, r3, r4, r5) := H
             have A12 := Aside0.mk A120
             clear A120
             by_cases c13 : t138 ≥ 0
             · rw [if_pos c13] at H
               have c13b0 : decide (0 ≤ t138) = true := decide_eq_true c13
               clear c13
               by_cases c14 : 0 ≤ t138
               · rw [if_pos c14] at H
                 have c14b0 := eq_true c14
                 have c14b1 : decide (0 ≤ t138) = true := decide_eq_true c14
                 clear c14
                 by_cases c15 : t138 ≤ ((t133.extract ((ji9) : Int).toNat t133.size).size : Int)
                 · rw [if_pos c15] at H
                   have c15b0 := eq_true c15
                   have c15b1 : decide (t138 ≤ ((t133.extract ((ji9) : Int).toNat t133.size).size : Int)) = true := decide_eq_true c15
                   (try (have c15bz := c15; simp only [ByteArray.size_extract, Nat.min_self] at c15bz; replace c15bz := eq_true c15bz))
                   clear c15
                   obtain ⟨ji16, hji16⟩ : ∃ j_ : Int, (wrap64 (t138 + 1)) = j_ := ⟨_, rfl⟩
                   replace H : (if 0 ≤ (ji16) then (if (ji16) ≤ ((t133.extract ((ji9) : Int).toNat t133.size).size : Int) then (some (t135, t136, (t133.extract ((ji9) : Int).toNat t133.size).extract 0 (t138 : Int).toNat, (t133.extract ((ji9) : Int).toNat t133.size).extract ((ji16) : Int).toNat (t133.size - ((ji9) : Int).toNat), true)) else (none)) else (none)) = some (r1, r2, r3, r4, r5) := by first | (rw [hji16] at H; exact H) | (simp only [hji16] at H ⊢; exact H)
                   (try rw [hji16] at A2)
                   (try rw [hji16] at A3)
                   (try rw [hji16] at A7)
                   (try rw [hji16] at A12)
                   have hji16w : (IntKind.i64.wrap (t138 + 1)) = ji16 := (i64_w _).trans hji16
                   by_cases c17 : 0 ≤ (ji16)
                   · rw [if_pos c17] at H
                     have c17b0 := eq_true c17
                     have c17b1 : decide (0 ≤ (ji16)) = true := decide_eq_true c17
                     clear c17
                     by_cases c18 : (ji16) ≤ ((t133.extract ((ji9) : Int).toNat t133.size).size : Int)
                     · rw [if_pos c18] at H
                       have c18b0 := eq_true c18
                       have c18b1 : decide ((ji16) ≤ ((t133.extract ((ji9) : Int).toNat t133.size).size : Int)) = true := decide_eq_true c18
                       (try (have c18bz := c18; simp only [ByteArray.size_extract, Nat.min_self] at c18bz; replace c18bz := eq_true c18bz))
                       clear c18
                       simp only [Option.some.injEq, Prod.mk.injEq] at H
                       obtain ⟨rfl, rfl, rfl, rfl, rfl⟩ := H
                       go_enter Tryd.func10, Tryd.ntmps10
                       try go_wp2_with (first | ((with_reducible refine gate_dst (N := 2) rfl ?_); refine box_event ?hg (N := 2) ?hd (cs := #[.bool false, .string (⟨#[]⟩ : ByteArray), .string (⟨#[]⟩ : ByteArray), .string (⟨#[]⟩ : ByteArray)]) (t := 27) ?hr ?_; (case hd => rfl); (case hg => rfl); (case hr => first | (go_simp; done) | (go_simp; rfl)); intro gb132 hg w19 hbox hb; have n0_ := Aside0.mk (below_step (by repeat (first | (with_reducible first | exact HB.out | apply below_alloc | apply pw_below_drewN | apply below_drew1) | exact HB.out)) hb); have n1_ := Aside0.mk (hbox); have n2_ := Aside0.mk ((by rw [hg]; exact (below_size (by repeat (first | (with_reducible first | exact HB.out | apply below_alloc | apply pw_below_drewN | apply below_drew1) | exact HB.out))) : w.heap.size ≤ gb132)); have n3_ := Aside0.mk ((by rw [hg]; exact (below_size (by repeat (first | (with_reducible first | exact HB.out | apply below_alloc | apply pw_below_drewN | apply below_drew1) | exact HB.out))) : w.heap.size ≤ gb132)); clear HB; have HB := n0_; have BK132 := n1_; have GW132 := n2_; have GE132 := n3_; clear n0_ n1_ n2_ n3_; clear hb hbox hg) | ((with_reducible refine gate_callee (f := 16) rfl ?_); refine goesL_ (some 7) rfl rfl Tryd.func16 (by kernel_rfl) rfl #[.string a0] rfl (by (try simp only [List.map_toArray, List.map_cons, List.map_nil]); first | done | rfl | (simp only [List.length_drop, List.length_take]; rfl)) ?_; (with_reducible refine (spec_debTrim.calls k a0 t133 _ A2.out).mono ?_); rintro e w' ⟨rfl, ⟨nd, rfl⟩⟩; refine ⟨_, rfl, ?_⟩; (try (rw [drewN_self w19]; generalize hq_ : World.drewN w19 _ = w19; have n0_ : Aside0 (w19.heap[gb132]? = some (.cells #[.bool false, .string (⟨#[]⟩ : ByteArray), .string (⟨#[]⟩ : ByteArray), .string (⟨#[]⟩ : ByteArray)] 27 (0, 0))) := ⟨by rw [← hq_]; exact (by (with_reducible repeat (first | refine blk_drewN ?_ _ | refine blk_drew ?_ | refine blk_alloc ?_ _)); exact BK132.out)⟩; have n1_ : Aside0 (Below w.heap.size w w19) := ⟨by rw [← hq_]; exact (by repeat (first | (with_reducible first | exact HB.out | apply below_alloc | apply pw_below_drewN | apply below_drew1 | refine below_set ?_ GE132.out) | exact HB.out))⟩; clear BK132 HB hq_; have BK132 := n0_; have HB := n1_; clear n0_ n1_))) | ((with_reducible refine gate_callee (f := 17) rfl ?_); refine goesL_ (some 9) rfl rfl Tryd.func17 (by kernel_rfl) rfl #[.string t133, .int .u8 58] rfl (by (try simp only [List.map_toArray, List.map_cons, List.map_nil]); first | done | rfl | (simp only [List.length_drop, List.length_take]; rfl)) ?_; (with_reducible refine (spec_indexOf.calls k t133 58 t134 _ A3.out).mono ?_); rintro e w' ⟨rfl, ⟨nd, rfl⟩⟩; refine ⟨_, rfl, ?_⟩; (try (rw [drewN_self w19]; generalize hq_ : World.drewN w19 _ = w19; have n0_ : Aside0 (w19.heap[gb132]? = some (.cells #[.bool false, .string (⟨#[]⟩ : ByteArray), .string (⟨#[]⟩ : ByteArray), .string (⟨#[]⟩ : ByteArray)] 27 (0, 0))) := ⟨by rw [← hq_]; exact (by (with_reducible repeat (first | refine blk_drewN ?_ _ | refine blk_drew ?_ | refine blk_alloc ?_ _)); exact BK132.out)⟩; have n1_ : Aside0 (Below w.heap.size w w19) := ⟨by rw [← hq_]; exact (by repeat (first | (with_reducible first | exact HB.out | apply below_alloc | apply pw_below_drewN | apply below_drew1 | refine below_set ?_ GE132.out) | exact HB.out))⟩; clear BK132 HB hq_; have BK132 := n0_; have HB := n1_; clear n0_ n1_))) | ((with_reducible refine gate_callee (f := 21) rfl ?_); refine goesL_ (some 16) rfl rfl Tryd.func21 (by kernel_rfl) rfl #[.string (t133.extract 0 (t134 : Int).toNat)] rfl (by (try simp only [List.map_toArray, List.map_cons, List.map_nil]); first | done | rfl | (simp only [List.length_drop, List.length_take]; rfl)) ?_; (with_reducible refine (spec_Number.calls k (t133.extract 0 (t134 : Int).toNat) t135 t136 true _ A7.out).mono ?_); rintro e w20 ⟨rfl, hb⟩; refine ⟨_, rfl, ?_⟩; have n0_ := Aside0.mk (blk_below (g := gb132) (o := .cells #[.bool false, .string (⟨#[]⟩ : ByteArray), .string (⟨#[]⟩ : ByteArray), .string (⟨#[]⟩ : ByteArray)] 27 (0, 0)) (by (with_reducible repeat (first | refine blk_drewN ?_ _ | refine blk_drew ?_ | refine blk_alloc ?_ _)); exact BK132.out) hb); have n1_ := Aside0.mk (below_step (by repeat (first | (with_reducible first | exact HB.out | apply below_alloc | apply pw_below_drewN | apply below_drew1 | refine below_set ?_ GE132.out) | exact HB.out)) hb); clear BK132; clear HB; have BK132 := n0_; have HB := n1_; clear n0_ n1_; (try clear hb); (try clear hb2); (try clear hk); (try clear hi); have hcz21_0 : w20.cell? ⟨gb132, 0, none⟩ = some (.bool false) := (blk_cell BK132.out 0).trans rfl; have hcz21_1 : w20.cell? ⟨gb132, 1, none⟩ = some (.string (⟨#[]⟩ : ByteArray)) := (blk_cell BK132.out 1).trans rfl; have hcz21_2 : w20.cell? ⟨gb132, 2, none⟩ = some (.string (⟨#[]⟩ : ByteArray)) := (blk_cell BK132.out 2).trans rfl; have hcz21_3 : w20.cell? ⟨gb132, 3, none⟩ = some (.string (⟨#[]⟩ : ByteArray)) := (blk_cell BK132.out 3).trans rfl; have hfz21_0 := blk_frozen BK132.out 0; have hfz21_1 := blk_frozen BK132.out 1; have hfz21_2 := blk_frozen BK132.out 2; have hfz21_3 := blk_frozen BK132.out 3) | ((with_reducible refine gate_callee (f := 22) rfl ?_); refine goesL_ (some 31) rfl rfl Tryd.func22 (by kernel_rfl) rfl #[.string (t133.extract ((ji9) : Int).toNat t133.size), .int .u8 45] rfl (by (try simp only [List.map_toArray, List.map_cons, List.map_nil]); first | done | (simp only [hji9]; rfl) | rfl | (simp only [List.length_drop, List.length_take]; rfl)) ?_; (with_reducible refine (spec_lastOf.calls k (t133.extract ((ji9) : Int).toNat t133.size) 45 t138 _ A12.out).mono ?_); rintro e w' ⟨rfl, ⟨nd, rfl⟩⟩; refine ⟨_, rfl, ?_⟩))
                       have n0_ : Aside0 (((((w20.setCell ⟨gb132, 0, none⟩ (.bool t135)).setCell ⟨gb132, 1, none⟩ (.string t136)).setCell ⟨gb132, 2, none⟩ (.string (t133.extract ((ji9) : Int).toNat t133.size))).setCell ⟨gb132, 3, none⟩ (.string (⟨#[48]⟩ : ByteArray))).heap[gb132]? = some (.cells #[.bool t135, .string t136, .string (t133.extract ((ji9) : Int).toNat t133.size), .string (⟨#[48]⟩ : ByteArray)] 27 (0, 0))) := ⟨by (with_reducible repeat (first | refine blk_drewN ?_ _ | refine blk_drew ?_ | refine blk_alloc ?_ _)); refine blk_put (cs := #[.bool t135, .string t136, .string (t133.extract ((ji9) : Int).toNat t133.size), .string (⟨#[]⟩ : ByteArray)]) ?_ 3 _ rfl; (with_reducible repeat (first | refine blk_drewN ?_ _ | refine blk_drew ?_ | refine blk_alloc ?_ _)); refine blk_put (cs := #[.bool t135, .string t136, .string (⟨#[]⟩ : ByteArray), .string (⟨#[]⟩ : ByteArray)]) ?_ 2 _ rfl; (with_reducible repeat (first | refine blk_drewN ?_ _ | refine blk_drew ?_ | refine blk_alloc ?_ _)); refine blk_put (cs := #[.bool t135, .string (⟨#[]⟩ : ByteArray), .string (⟨#[]⟩ : ByteArray), .string (⟨#[]⟩ : ByteArray)]) ?_ 1 _ rfl; (with_reducible repeat (first | refine blk_drewN ?_ _ | refine blk_drew ?_ | refine blk_alloc ?_ _)); refine blk_put (cs := #[.bool false, .string (⟨#[]⟩ : ByteArray), .string (⟨#[]⟩ : ByteArray), .string (⟨#[]⟩ : ByteArray)]) ?_ 0 _ rfl; (with_reducible repeat (first | refine blk_drewN ?_ _ | refine blk_drew ?_ | refine blk_alloc ?_ _)); exact BK132.out⟩
                       have n1_ : Aside0 (Below w.heap.size w ((((w20.setCell ⟨gb132, 0, none⟩ (.bool t135)).setCell ⟨gb132, 1, none⟩ (.string t136)).setCell ⟨gb132, 2, none⟩ (.string (t133.extract ((ji9) : Int).toNat t133.size))).setCell ⟨gb132, 3, none⟩ (.string (⟨#[48]⟩ : ByteArray)))) := ⟨by repeat (first | (with_reducible first | exact HB.out | apply below_alloc | apply pw_below_drewN | apply below_drew1 | refine below_set ?_ GE132.out) | exact HB.out)⟩
                       (try clear BK132)
                       (try clear HB)
                       generalize ((((w20.setCell ⟨gb132, 0, none⟩ (.bool t135)).setCell ⟨gb132, 1, none⟩ (.string t136)).setCell ⟨gb132, 2, none⟩ (.string (t133.extract ((ji9) : Int).toNat t133.size))).setCell ⟨gb132, 3, none⟩ (.string (⟨#[48]⟩ : ByteArray))) = w22 at n0_ n1_ ⊢
                       have BK132 := n0_
                       have HB := n1_
                       clear n0_ n1_
                       (try (rw [drewN_self w22]; generalize hq_ : World.drewN w22 _ = w22; have n0_ : Aside0 (w22.heap[gb132]? = some (.cells #[.bool t135, .string t136, .string (t133.extract ((ji9) : Int).toNat t133.size), .string (⟨#[48]⟩ : ByteArray)] 27 (0, 0))) := ⟨by rw [← hq_]; exact (by (with_reducible repeat (first | refine blk_drewN ?_ _ | refine blk_drew ?_ | refine blk_alloc ?_ _)); exact BK132.out)⟩; have n1_ : Aside0 (Below w.heap.size w w22) := ⟨by rw [← hq_]; exact (by repeat (first | (with_reducible first | exact HB.out | apply below_alloc | apply pw_below_drewN | apply below_drew1 | refine below_set ?_ GE132.out) | exact HB.out))⟩; clear BK132 HB hq_; have BK132 := n0_; have HB := n1_; clear n0_ n1_))
                       have n0_ := Aside0.mk (blk_drew BK132.out)
                       have n1_ := Aside0.mk (below_drew1 HB.out)
                       clear BK132
                       clear HB
                       have BK132 := n0_
                       have HB := n1_
                       clear n0_ n1_
                       refine start_ (n := 11) (S := fun w' => True) (ds := []) #[false, false, false, false, false, false, false, false, false, false, false] (by kernel_rfl) rfl rfl trivial (fun hHeld => ?_); refine with_tabW spec_DebianParse.tab11 spec_DebianParse.bits11 (fun HT_ HW_ => ?_)
                       generalize w22.drew = w23 at BK132 HB hHeld ⊢
                       refine pure_ (i := 0) (N := some 34) (v := ?_) (a' := ?_) #[true, false, false, false, false, false, false, false, false, false, false] rfl rfl (any_of HT_.out (by kernel_rfl)) (fun _ _ _ h => h) (Or.inl ⟨by rfl, ?_⟩) ?_ ?_
                       rotate_left
                       · intro w'
                         go_simp
                         with_reducible rfl
                       rotate_left
                       · simp only [Act.put, List.setIfInBounds_toArray, List.set_cons_zero, List.set_cons_succ, i64_w, i32_w]
                         rfl
                       refine pure_ (i := 1) (N := some 35) (v := ?_) (a' := ?_) #[true, true, false, false, false, false, false, false, false, false, false] rfl rfl (any_of HT_.out (by kernel_rfl)) (fun _ _ _ h => h) (Or.inl ⟨by rfl, ?_⟩) ?_ ?_
                       rotate_left
                       · intro w'
                         go_simp
                         with_reducible rfl
                       rotate_left
                       · simp only [Act.put, List.setIfInBounds_toArray, List.set_cons_zero, List.set_cons_succ, i64_w, i32_w]
                         rfl
                       refine pure_ (i := 2) (N := some 36) (v := ?_) (a' := ?_) #[true, true, true, false, false, false, false, false, false, false, false] rfl rfl (any_of HT_.out (by kernel_rfl)) (fun _ _ _ h => h) (Or.inl ⟨by rfl, ?_⟩) ?_ ?_
                       rotate_left
                       · intro w'
                         go_simp
                         with_reducible rfl
                       rotate_left
                       · simp only [Act.put, List.setIfInBounds_toArray, List.set_cons_zero, List.set_cons_succ, i64_w, i32_w]
                         rfl
                       refine pure_ (i := 3) (N := some 37) (v := ?_) (a' := ?_) #[true, true, true, true, false, false, false, false, false, false, false] rfl rfl (any_of HT_.out (by kernel_rfl)) (fun _ _ _ h => h) (Or.inl ⟨by rfl, ?_⟩) ?_ ?_
                       rotate_left
                       · intro w'
                         go_simp
                         with_reducible rfl
                       rotate_left
                       · simp only [Act.put, List.setIfInBounds_toArray, List.set_cons_zero, List.set_cons_succ, i64_w, i32_w]
                         rfl
                       refine pure_ (i := 4) (N := some 38) (v := ?_) (a' := ?_) #[true, true, true, true, true, false, false, false, false, false, false] rfl rfl (any_of HT_.out (by kernel_rfl)) (fun _ _ _ h => h) (Or.inl ⟨by rfl, ?_⟩) ?_ ?_
                       rotate_left
                       · intro w'
                         go_simp
                         with_reducible rfl
                       rotate_left
                       · simp only [Act.put, List.setIfInBounds_toArray, List.set_cons_zero, List.set_cons_succ, i64_w, i32_w]
                         rfl
                       refine pure_ (i := 5) (N := some 39) (v := ?_) (a' := ?_) #[true, true, true, true, true, true, false, false, false, false, false] rfl rfl (any_of HT_.out (by kernel_rfl)) (fun _ _ _ h => h) (Or.inl ⟨by rfl, ?_⟩) ?_ ?_
                       rotate_left
                       · intro w'
                         go_simp
                         with_reducible rfl
                       rotate_left
                       · simp only [Act.put, List.setIfInBounds_toArray, List.set_cons_zero, List.set_cons_succ, i64_w, i32_w]
                         rfl
                       refine pure_ (i := 6) (N := some 40) (v := ?_) (a' := ?_) #[true, true, true, true, true, true, true, false, false, false, false] rfl rfl (any_of HT_.out (by kernel_rfl)) (fun _ _ _ h => h) (Or.inl ⟨by rfl, ?_⟩) ?_ ?_
                       rotate_left
                       · intro w'
                         go_simp
                         with_reducible rfl
                       rotate_left
                       · simp only [Act.put, List.setIfInBounds_toArray, List.set_cons_zero, List.set_cons_succ, i64_w, i32_w]
                         rfl
                       refine pure_ (i := 7) (N := some 41) (v := ?_) (a' := ?_) #[true, true, true, true, true, true, true, true, false, false, false] rfl rfl (any_of HT_.out (by kernel_rfl)) (fun _ _ _ h => h) (Or.inl ⟨by rfl, ?_⟩) ?_ ?_
                       rotate_left
                       · intro w'
                         go_simp
                         with_reducible rfl
                       rotate_left
                       · simp only [Act.put, List.setIfInBounds_toArray, List.set_cons_zero, List.set_cons_succ, i64_w, i32_w]
                         rfl
                       refine one_ (i := 8) (N := none) #[true, true, true, true, true, true, true, true, true, false, false] rfl rfl (one_of HT_.out (by kernel_rfl)) (by decide) (fun K hK => ?_)
                       have hs24 : w23.cell? ⟨gb132, 2, none⟩ = some (.string (t133.extract ((ji9) : Int).toNat t133.size)) := (blk_cell BK132.out 2).trans rfl
                       have hfs24 := blk_frozen BK132.out 2
                       refine skip_ (w1 := ?_) (by rfl) rfl ?_ ?_
                       rotate_left
                       · go_simp
                         rfl
                       refine hK.out _ _ trivial (fun hHeld => ?_)
                       clear hK K
                       refine pure_ (i := 9) (N := some 42) (v := ?_) (a' := ?_) #[true, true, true, true, true, true, true, true, true, true, false] rfl rfl (any_of HT_.out (by kernel_rfl)) (fun _ _ _ h => h) (Or.inl ⟨by rfl, ?_⟩) ?_ ?_
                       rotate_left
                       · intro w'
                         go_simp
                         with_reducible rfl
                       rotate_left
                       · simp only [Act.put, List.setIfInBounds_toArray, List.set_cons_zero, List.set_cons_succ, i64_w, i32_w]
                         rfl
                       refine one_ (i := 10) (N := none) #[true, true, true, true, true, true, true, true, true, true, true] rfl rfl (one_of HT_.out (by kernel_rfl)) (by decide) (fun K hK => ?_)
                       have hs25 : w23.cell? ⟨gb132, 3, none⟩ = some (.string (⟨#[48]⟩ : ByteArray)) := (blk_cell BK132.out 3).trans rfl
                       have hfs25 := blk_frozen BK132.out 3
                       refine skip_ (w1 := ?_) (by rfl) rfl ?_ ?_
                       rotate_left
                       · go_simp
                         rfl
                       refine hK.out _ _ trivial (fun hHeld => ?_)
                       clear hK K
                       refine done_ (done_of HT_.out (by kernel_rfl)) ?_
                       have hcz26_0 : w23.cell? ⟨gb132, 0, none⟩ = some (.bool t135) := (blk_cell BK132.out 0).trans rfl
                       have hcz26_1 : w23.cell? ⟨gb132, 1, none⟩ = some (.string t136) := (blk_cell BK132.out 1).trans rfl
                       have hcz26_2 : w23.cell? ⟨gb132, 2, none⟩ = some (.string (t133.extract ((ji9) : Int).toNat t133.size)) := (blk_cell BK132.out 2).trans rfl
                       have hcz26_3 : w23.cell? ⟨gb132, 3, none⟩ = some (.string (⟨#[48]⟩ : ByteArray)) := (blk_cell BK132.out 3).trans rfl
                       have hfz26_0 := blk_frozen BK132.out 0
                       have hfz26_1 := blk_frozen BK132.out 1
                       have hfz26_2 := blk_frozen BK132.out 2
                       have hfz26_3 := blk_frozen BK132.out 3
                       try go_wp2
                       refine bodyPost_ret (results_ct rfl _ _ gb132 27 #[.bool t135, .string t136, .string ((t133.extract ((ji9) : Int).toNat t133.size).extract 0 (t138 : Int).toNat), .string ((t133.extract ((ji9) : Int).toNat t133.size).extract ((ji16) : Int).toNat (t133.size - ((ji9) : Int).toNat))] (0, 0) _ rfl (by (with_reducible repeat (first | refine blk_drewN ?_ _ | refine blk_drew ?_ | refine blk_alloc ?_ _)); refine blk_put (cs := #[.bool t135, .string t136, .string ((t133.extract ((ji9) : Int).toNat t133.size).extract 0 (t138 : Int).toNat), .string ((t133.extract ((ji9) : Int).toNat t133.size).extract ((ji16) : Int).toNat (t133.size - ((ji9) : Int).toNat))]) ?_ 3 _ rfl; (with_reducible repeat (first | refine blk_drewN ?_ _ | refine blk_drew ?_ | refine blk_alloc ?_ _)); refine blk_put (cs := #[.bool t135, .string t136, .string ((t133.extract ((ji9) : Int).toNat t133.size).extract 0 (t138 : Int).toNat), .string ((t133.extract ((ji9) : Int).toNat t133.size).extract ((ji16) : Int).toNat (t133.size - ((ji9) : Int).toNat))]) ?_ 2 _ rfl; (with_reducible repeat (first | refine blk_drewN ?_ _ | refine blk_drew ?_ | refine blk_alloc ?_ _)); refine blk_put (cs := #[.bool t135, .string t136, .string ((t133.extract ((ji9) : Int).toNat t133.size).extract 0 (t138 : Int).toNat), .string ((t133.extract ((ji9) : Int).toNat t133.size).extract ((ji16) : Int).toNat (t133.size - ((ji9) : Int).toNat))]) ?_ 1 _ rfl; (with_reducible repeat (first | refine blk_drewN ?_ _ | refine blk_drew ?_ | refine blk_alloc ?_ _)); refine blk_put (cs := #[.bool t135, .string t136, .string ((t133.extract ((ji9) : Int).toNat t133.size).extract 0 (t138 : Int).toNat), .string ((t133.extract ((ji9) : Int).toNat t133.size).extract ((ji16) : Int).toNat (t133.size - ((ji9) : Int).toNat))]) ?_ 0 _ rfl; (with_reducible repeat (first | refine blk_drewN ?_ _ | refine blk_drew ?_ | refine blk_alloc ?_ _)); refine blk_put (cs := #[.bool t135, .string t136, .string ((t133.extract ((ji9) : Int).toNat t133.size).extract 0 (t138 : Int).toNat), .string (⟨#[48]⟩ : ByteArray)]) ?_ 3 _ rfl; (with_reducible repeat (first | refine blk_drewN ?_ _ | refine blk_drew ?_ | refine blk_alloc ?_ _)); refine blk_put (cs := #[.bool t135, .string t136, .string (t133.extract ((ji9) : Int).toNat t133.size), .string (⟨#[48]⟩ : ByteArray)]) ?_ 2 _ rfl; (with_reducible repeat (first | refine blk_drewN ?_ _ | refine blk_drew ?_ | refine blk_alloc ?_ _)); exact BK132.out) Tryd.underlying27 rfl (by kernel_rfl)) rfl ?_
                       exact ⟨by first | rfl | (simp [errW_none, errW_some] <;> rfl) | (simp only [← hji9, ← hji16]; first | rfl | (simp [errW_none, errW_some] <;> rfl)) | (simp [*, errW_none, errW_some] <;> rfl) | (simp [bne_nil_]; done), by repeat (first | (with_reducible first | exact HB.out | apply below_alloc | apply pw_below_drewN | apply below_drew1 | refine below_set ?_ GE132.out) | exact HB.out)⟩
                     · rw [if_neg c18] at H
                       exact absurd H (by simp)
                   · rw [if_neg c17] at H
                     exact absurd H (by simp)
                 · rw [if_neg c15] at H
                   exact absurd H (by simp)
               · rw [if_neg c14] at H
                 exact absurd H (by simp)
             · rw [if_neg c13] at H
               have c13b0 : decide (0 ≤ t138) = false := decide_eq_false c13
               clear c13
               simp only [Option.some.injEq, Prod.mk.injEq] at H
               obtain ⟨rfl, rfl, rfl, rfl, rfl⟩ := H
               go_enter Tryd.func10, Tryd.ntmps10
               go_wp2_with (first | ((with_reducible refine gate_dst (N := 2) rfl ?_); refine box_event ?hg (N := 2) ?hd (cs := #[.bool false, .string (⟨#[]⟩ : ByteArray), .string (⟨#[]⟩ : ByteArray), .string (⟨#[]⟩ : ByteArray)]) (t := 27) ?hr ?_; (case hd => rfl); (case hg => rfl); (case hr => first | (go_simp; done) | (go_simp; rfl)); intro gb132 hg w27 hbox hb; have n0_ := Aside0.mk (below_step (by repeat (first | (with_reducible first | exact HB.out | apply below_alloc | apply pw_below_drewN | apply below_drew1) | exact HB.out)) hb); have n1_ := Aside0.mk (hbox); have n2_ := Aside0.mk ((by rw [hg]; exact (below_size (by repeat (first | (with_reducible first | exact HB.out | apply below_alloc | apply pw_below_drewN | apply below_drew1) | exact HB.out))) : w.heap.size ≤ gb132)); have n3_ := Aside0.mk ((by rw [hg]; exact (below_size (by repeat (first | (with_reducible first | exact HB.out | apply below_alloc | apply pw_below_drewN | apply below_drew1) | exact HB.out))) : w.heap.size ≤ gb132)); clear HB; have HB := n0_; have BK132 := n1_; have GW132 := n2_; have GE132 := n3_; clear n0_ n1_ n2_ n3_; clear hb hbox hg) | ((with_reducible refine gate_callee (f := 16) rfl ?_); refine goesL_ (some 7) rfl rfl Tryd.func16 (by kernel_rfl) rfl #[.string a0] rfl (by (try simp only [List.map_toArray, List.map_cons, List.map_nil]); first | done | rfl | (simp only [List.length_drop, List.length_take]; rfl)) ?_; (with_reducible refine (spec_debTrim.calls k a0 t133 _ A2.out).mono ?_); rintro e w' ⟨rfl, ⟨nd, rfl⟩⟩; refine ⟨_, rfl, ?_⟩; (try (rw [drewN_self w27]; generalize hq_ : World.drewN w27 _ = w27; have n0_ : Aside0 (w27.heap[gb132]? = some (.cells #[.bool false, .string (⟨#[]⟩ : ByteArray), .string (⟨#[]⟩ : ByteArray), .string (⟨#[]⟩ : ByteArray)] 27 (0, 0))) := ⟨by rw [← hq_]; exact (by (with_reducible repeat (first | refine blk_drewN ?_ _ | refine blk_drew ?_ | refine blk_alloc ?_ _)); exact BK132.out)⟩; have n1_ : Aside0 (Below w.heap.size w w27) := ⟨by rw [← hq_]; exact (by repeat (first | (with_reducible first | exact HB.out | apply below_alloc | apply pw_below_drewN | apply below_drew1 | refine below_set ?_ GE132.out) | exact HB.out))⟩; clear BK132 HB hq_; have BK132 := n0_; have HB := n1_; clear n0_ n1_))) | ((with_reducible refine gate_callee (f := 17) rfl ?_); refine goesL_ (some 9) rfl rfl Tryd.func17 (by kernel_rfl) rfl #[.string t133, .int .u8 58] rfl (by (try simp only [List.map_toArray, List.map_cons, List.map_nil]); first | done | rfl | (simp only [List.length_drop, List.length_take]; rfl)) ?_; (with_reducible refine (spec_indexOf.calls k t133 58 t134 _ A3.out).mono ?_); rintro e w' ⟨rfl, ⟨nd, rfl⟩⟩; refine ⟨_, rfl, ?_⟩; (try (rw [drewN_self w27]; generalize hq_ : World.drewN w27 _ = w27; have n0_ : Aside0 (w27.heap[gb132]? = some (.cells #[.bool false, .string (⟨#[]⟩ : ByteArray), .string (⟨#[]⟩ : ByteArray), .string (⟨#[]⟩ : ByteArray)] 27 (0, 0))) := ⟨by rw [← hq_]; exact (by (with_reducible repeat (first | refine blk_drewN ?_ _ | refine blk_drew ?_ | refine blk_alloc ?_ _)); exact BK132.out)⟩; have n1_ : Aside0 (Below w.heap.size w w27) := ⟨by rw [← hq_]; exact (by repeat (first | (with_reducible first | exact HB.out | apply below_alloc | apply pw_below_drewN | apply below_drew1 | refine below_set ?_ GE132.out) | exact HB.out))⟩; clear BK132 HB hq_; have BK132 := n0_; have HB := n1_; clear n0_ n1_))) | ((with_reducible refine gate_callee (f := 21) rfl ?_); refine goesL_ (some 16) rfl rfl Tryd.func21 (by kernel_rfl) rfl #[.string (t133.extract 0 (t134 : Int).toNat)] rfl (by (try simp only [List.map_toArray, List.map_cons, List.map_nil]); first | done | rfl | (simp only [List.length_drop, List.length_take]; rfl)) ?_; (with_reducible refine (spec_Number.calls k (t133.extract 0 (t134 : Int).toNat) t135 t136 true _ A7.out).mono ?_); rintro e w28 ⟨rfl, hb⟩; refine ⟨_, rfl, ?_⟩; have n0_ := Aside0.mk (blk_below (g := gb132) (o := .cells #[.bool false, .string (⟨#[]⟩ : ByteArray), .string (⟨#[]⟩ : ByteArray), .string (⟨#[]⟩ : ByteArray)] 27 (0, 0)) (by (with_reducible repeat (first | refine blk_drewN ?_ _ | refine blk_drew ?_ | refine blk_alloc ?_ _)); exact BK132.out) hb); have n1_ := Aside0.mk (below_step (by repeat (first | (with_reducible first | exact HB.out | apply below_alloc | apply pw_below_drewN | apply below_drew1 | refine below_set ?_ GE132.out) | exact HB.out)) hb); clear BK132; clear HB; have BK132 := n0_; have HB := n1_; clear n0_ n1_; (try clear hb); (try clear hb2); (try clear hk); (try clear hi); have hcz29_0 : w28.cell? ⟨gb132, 0, none⟩ = some (.bool false) := (blk_cell BK132.out 0).trans rfl; have hcz29_1 : w28.cell? ⟨gb132, 1, none⟩ = some (.string (⟨#[]⟩ : ByteArray)) := (blk_cell BK132.out 1).trans rfl; have hcz29_2 : w28.cell? ⟨gb132, 2, none⟩ = some (.string (⟨#[]⟩ : ByteArray)) := (blk_cell BK132.out 2).trans rfl; have hcz29_3 : w28.cell? ⟨gb132, 3, none⟩ = some (.string (⟨#[]⟩ : ByteArray)) := (blk_cell BK132.out 3).trans rfl; have hfz29_0 := blk_frozen BK132.out 0; have hfz29_1 := blk_frozen BK132.out 1; have hfz29_2 := blk_frozen BK132.out 2; have hfz29_3 := blk_frozen BK132.out 3) | ((with_reducible refine gate_callee (f := 22) rfl ?_); refine goesL_ (some 31) rfl rfl Tryd.func22 (by kernel_rfl) rfl #[.string (t133.extract ((ji9) : Int).toNat t133.size), .int .u8 45] rfl (by (try simp only [List.map_toArray, List.map_cons, List.map_nil]); first | done | (simp only [hji9]; rfl) | rfl | (simp only [List.length_drop, List.length_take]; rfl)) ?_; (with_reducible refine (spec_lastOf.calls k (t133.extract ((ji9) : Int).toNat t133.size) 45 t138 _ A12.out).mono ?_); rintro e w' ⟨rfl, ⟨nd, rfl⟩⟩; refine ⟨_, rfl, ?_⟩))
               refine bodyPost_ret (results_ct rfl _ _ gb132 27 #[.bool t135, .string t136, .string (t133.extract ((ji9) : Int).toNat t133.size), .string (⟨#[48]⟩ : ByteArray)] (0, 0) _ rfl (by (with_reducible repeat (first | refine blk_drewN ?_ _ | refine blk_drew ?_ | refine blk_alloc ?_ _)); refine blk_put (cs := #[.bool t135, .string t136, .string (t133.extract ((ji9) : Int).toNat t133.size), .string (⟨#[48]⟩ : ByteArray)]) ?_ 3 _ rfl; (with_reducible repeat (first | refine blk_drewN ?_ _ | refine blk_drew ?_ | refine blk_alloc ?_ _)); refine blk_put (cs := #[.bool t135, .string t136, .string (t133.extract ((ji9) : Int).toNat t133.size), .string (⟨#[48]⟩ : ByteArray)]) ?_ 2 _ rfl; (with_reducible repeat (first | refine blk_drewN ?_ _ | refine blk_drew ?_ | refine blk_alloc ?_ _)); refine blk_put (cs := #[.bool t135, .string t136, .string (t133.extract ((ji9) : Int).toNat t133.size), .string (⟨#[48]⟩ : ByteArray)]) ?_ 1 _ rfl; (with_reducible repeat (first | refine blk_drewN ?_ _ | refine blk_drew ?_ | refine blk_alloc ?_ _)); refine blk_put (cs := #[.bool t135, .string t136, .string (t133.extract ((ji9) : Int).toNat t133.size), .string (⟨#[48]⟩ : ByteArray)]) ?_ 0 _ rfl; (with_reducible repeat (first | refine blk_drewN ?_ _ | refine blk_drew ?_ | refine blk_alloc ?_ _)); refine blk_put (cs := #[.bool t135, .string t136, .string (t133.extract ((ji9) : Int).toNat t133.size), .string (⟨#[]⟩ : ByteArray)]) ?_ 3 _ rfl; (with_reducible repeat (first | refine blk_drewN ?_ _ | refine blk_drew ?_ | refine blk_alloc ?_ _)); refine blk_put (cs := #[.bool t135, .string t136, .string (⟨#[]⟩ : ByteArray), .string (⟨#[]⟩ : ByteArray)]) ?_ 2 _ rfl; (with_reducible repeat (first | refine blk_drewN ?_ _ | refine blk_drew ?_ | refine blk_alloc ?_ _)); refine blk_put (cs := #[.bool t135, .string (⟨#[]⟩ : ByteArray), .string (⟨#[]⟩ : ByteArray), .string (⟨#[]⟩ : ByteArray)]) ?_ 1 _ rfl; (with_reducible repeat (first | refine blk_drewN ?_ _ | refine blk_drew ?_ | refine blk_alloc ?_ _)); refine blk_put (cs := #[.bool false, .string (⟨#[]⟩ : ByteArray), .string (⟨#[]⟩ : ByteArray), .string (⟨#[]⟩ : ByteArray)]) ?_ 0 _ rfl; (with_reducible repeat (first | refine blk_drewN ?_ _ | refine blk_drew ?_ | refine blk_alloc ?_ _)); exact BK132.out) Tryd.underlying27 rfl (by kernel_rfl)) rfl ?_
               exact ⟨by first | rfl | (simp [errW_none, errW_some] <;> rfl) | (simp only [← hji9]; first | rfl | (simp [errW_none, errW_some] <;> rfl)) | (simp [*, errW_none, errW_some] <;> rfl) | (simp [bne_nil_]; done), by repeat (first | (with_reducible first | exact HB.out | apply below_alloc | apply pw_below_drewN | apply below_drew1 | refine below_set ?_ GE132.out) | exact HB.out)⟩
           · rw [if_neg c11] at H
             exact absurd H (by simp)
         · rw [if_neg c10] at H
           exact absurd H (by simp)
       · replace c8 := Bool.eq_false_iff.mpr c8
         subst c8
         have H1 : (some (false, (⟨#[]⟩ : ByteArray), (⟨#[]⟩ : ByteArray), (⟨#[]⟩ : ByteArray), false)) = some (r1, r2, r3, r4, r5) := by rw [if_neg (show ¬ (false = true) by decide)] at H; exact H
         clear H
         have H := H1
         clear H1
         simp only [Option.some.injEq, Prod.mk.injEq] at H
         obtain ⟨rfl, rfl, rfl, rfl, rfl⟩ := H
         go_enter Tryd.func10, Tryd.ntmps10
         go_wp2_with (first | ((with_reducible refine gate_dst (N := 2) rfl ?_); refine box_event ?hg (N := 2) ?hd (cs := #[.bool false, .string (⟨#[]⟩ : ByteArray), .string (⟨#[]⟩ : ByteArray), .string (⟨#[]⟩ : ByteArray)]) (t := 27) ?hr ?_; (case hd => rfl); (case hg => rfl); (case hr => first | (go_simp; done) | (go_simp; rfl)); intro gb132 hg w30 hbox hb; have n0_ := Aside0.mk (below_step (by repeat (first | (with_reducible first | exact HB.out | apply below_alloc | apply pw_below_drewN | apply below_drew1) | exact HB.out)) hb); have n1_ := Aside0.mk (hbox); have n2_ := Aside0.mk ((by rw [hg]; exact (below_size (by repeat (first | (with_reducible first | exact HB.out | apply below_alloc | apply pw_below_drewN | apply below_drew1) | exact HB.out))) : w.heap.size ≤ gb132)); have n3_ := Aside0.mk ((by rw [hg]; exact (below_size (by repeat (first | (with_reducible first | exact HB.out | apply below_alloc | apply pw_below_drewN | apply below_drew1) | exact HB.out))) : w.heap.size ≤ gb132)); clear HB; have HB := n0_; have BK132 := n1_; have GW132 := n2_; have GE132 := n3_; clear n0_ n1_ n2_ n3_; clear hb hbox hg) | ((with_reducible refine gate_callee (f := 16) rfl ?_); refine goesL_ (some 7) rfl rfl Tryd.func16 (by kernel_rfl) rfl #[.string a0] rfl (by (try simp only [List.map_toArray, List.map_cons, List.map_nil]); first | done | rfl | (simp only [List.length_drop, List.length_take]; rfl)) ?_; (with_reducible refine (spec_debTrim.calls k a0 t133 _ A2.out).mono ?_); rintro e w' ⟨rfl, ⟨nd, rfl⟩⟩; refine ⟨_, rfl, ?_⟩; (try (rw [drewN_self w30]; generalize hq_ : World.drewN w30 _ = w30; have n0_ : Aside0 (w30.heap[gb132]? = some (.cells #[.bool false, .string (⟨#[]⟩ : ByteArray), .string (⟨#[]⟩ : ByteArray), .string (⟨#[]⟩ : ByteArray)] 27 (0, 0))) := ⟨by rw [← hq_]; exact (by (with_reducible repeat (first | refine blk_drewN ?_ _ | refine blk_drew ?_ | refine blk_alloc ?_ _)); exact BK132.out)⟩; have n1_ : Aside0 (Below w.heap.size w w30) := ⟨by rw [← hq_]; exact (by repeat (first | (with_reducible first | exact HB.out | apply below_alloc | apply pw_below_drewN | apply below_drew1 | refine below_set ?_ GE132.out) | exact HB.out))⟩; clear BK132 HB hq_; have BK132 := n0_; have HB := n1_; clear n0_ n1_))) | ((with_reducible refine gate_callee (f := 17) rfl ?_); refine goesL_ (some 9) rfl rfl Tryd.func17 (by kernel_rfl) rfl #[.string t133, .int .u8 58] rfl (by (try simp only [List.map_toArray, List.map_cons, List.map_nil]); first | done | rfl | (simp only [List.length_drop, List.length_take]; rfl)) ?_; (with_reducible refine (spec_indexOf.calls k t133 58 t134 _ A3.out).mono ?_); rintro e w' ⟨rfl, ⟨nd, rfl⟩⟩; refine ⟨_, rfl, ?_⟩; (try (rw [drewN_self w30]; generalize hq_ : World.drewN w30 _ = w30; have n0_ : Aside0 (w30.heap[gb132]? = some (.cells #[.bool false, .string (⟨#[]⟩ : ByteArray), .string (⟨#[]⟩ : ByteArray), .string (⟨#[]⟩ : ByteArray)] 27 (0, 0))) := ⟨by rw [← hq_]; exact (by (with_reducible repeat (first | refine blk_drewN ?_ _ | refine blk_drew ?_ | refine blk_alloc ?_ _)); exact BK132.out)⟩; have n1_ : Aside0 (Below w.heap.size w w30) := ⟨by rw [← hq_]; exact (by repeat (first | (with_reducible first | exact HB.out | apply below_alloc | apply pw_below_drewN | apply below_drew1 | refine below_set ?_ GE132.out) | exact HB.out))⟩; clear BK132 HB hq_; have BK132 := n0_; have HB := n1_; clear n0_ n1_))) | ((with_reducible refine gate_callee (f := 21) rfl ?_); refine goesL_ (some 16) rfl rfl Tryd.func21 (by kernel_rfl) rfl #[.string (t133.extract 0 (t134 : Int).toNat)] rfl (by (try simp only [List.map_toArray, List.map_cons, List.map_nil]); first | done | rfl | (simp only [List.length_drop, List.length_take]; rfl)) ?_; (with_reducible refine (spec_Number.calls k (t133.extract 0 (t134 : Int).toNat) t135 t136 false _ A7.out).mono ?_); rintro e w31 ⟨rfl, hb⟩; refine ⟨_, rfl, ?_⟩; have n0_ := Aside0.mk (blk_below (g := gb132) (o := .cells #[.bool false, .string (⟨#[]⟩ : ByteArray), .string (⟨#[]⟩ : ByteArray), .string (⟨#[]⟩ : ByteArray)] 27 (0, 0)) (by (with_reducible repeat (first | refine blk_drewN ?_ _ | refine blk_drew ?_ | refine blk_alloc ?_ _)); exact BK132.out) hb); have n1_ := Aside0.mk (below_step (by repeat (first | (with_reducible first | exact HB.out | apply below_alloc | apply pw_below_drewN | apply below_drew1 | refine below_set ?_ GE132.out) | exact HB.out)) hb); clear BK132; clear HB; have BK132 := n0_; have HB := n1_; clear n0_ n1_; (try clear hb); (try clear hb2); (try clear hk); (try clear hi); have hcz32_0 : w31.cell? ⟨gb132, 0, none⟩ = some (.bool false) := (blk_cell BK132.out 0).trans rfl; have hcz32_1 : w31.cell? ⟨gb132, 1, none⟩ = some (.string (⟨#[]⟩ : ByteArray)) := (blk_cell BK132.out 1).trans rfl; have hcz32_2 : w31.cell? ⟨gb132, 2, none⟩ = some (.string (⟨#[]⟩ : ByteArray)) := (blk_cell BK132.out 2).trans rfl; have hcz32_3 : w31.cell? ⟨gb132, 3, none⟩ = some (.string (⟨#[]⟩ : ByteArray)) := (blk_cell BK132.out 3).trans rfl; have hfz32_0 := blk_frozen BK132.out 0; have hfz32_1 := blk_frozen BK132.out 1; have hfz32_2 := blk_frozen BK132.out 2; have hfz32_3 := blk_frozen BK132.out 3))
         refine bodyPost_ret (results_ct rfl _ _ gb132 27 #[.bool false, .string (⟨#[]⟩ : ByteArray), .string (⟨#[]⟩ : ByteArray), .string (⟨#[]⟩ : ByteArray)] (0, 0) _ rfl (by (with_reducible repeat (first | refine blk_drewN ?_ _ | refine blk_drew ?_ | refine blk_alloc ?_ _)); refine blk_put (cs := #[.bool false, .string (⟨#[]⟩ : ByteArray), .string (⟨#[]⟩ : ByteArray), .string (⟨#[]⟩ : ByteArray)]) ?_ 3 _ rfl; (with_reducible repeat (first | refine blk_drewN ?_ _ | refine blk_drew ?_ | refine blk_alloc ?_ _)); refine blk_put (cs := #[.bool false, .string (⟨#[]⟩ : ByteArray), .string (⟨#[]⟩ : ByteArray), .string (⟨#[]⟩ : ByteArray)]) ?_ 2 _ rfl; (with_reducible repeat (first | refine blk_drewN ?_ _ | refine blk_drew ?_ | refine blk_alloc ?_ _)); refine blk_put (cs := #[.bool false, .string t136, .string (⟨#[]⟩ : ByteArray), .string (⟨#[]⟩ : ByteArray)]) ?_ 1 _ rfl; (with_reducible repeat (first | refine blk_drewN ?_ _ | refine blk_drew ?_ | refine blk_alloc ?_ _)); refine blk_put (cs := #[.bool t135, .string t136, .string (⟨#[]⟩ : ByteArray), .string (⟨#[]⟩ : ByteArray)]) ?_ 0 _ rfl; (with_reducible repeat (first | refine blk_drewN ?_ _ | refine blk_drew ?_ | refine blk_alloc ?_ _)); refine blk_put (cs := #[.bool t135, .string (⟨#[]⟩ : ByteArray), .string (⟨#[]⟩ : ByteArray), .string (⟨#[]⟩ : ByteArray)]) ?_ 1 _ rfl; (with_reducible repeat (first | refine blk_drewN ?_ _ | refine blk_drew ?_ | refine blk_alloc ?_ _)); refine blk_put (cs := #[.bool false, .string (⟨#[]⟩ : ByteArray), .string (⟨#[]⟩ : ByteArray), .string (⟨#[]⟩ : ByteArray)]) ?_ 0 _ rfl; (with_reducible repeat (first | refine blk_drewN ?_ _ | refine blk_drew ?_ | refine blk_alloc ?_ _)); exact BK132.out) Tryd.underlying27 rfl (by kernel_rfl)) rfl ?_
         exact ⟨by first | rfl | (simp [errW_none, errW_some] <;> rfl) | (simp [*, errW_none, errW_some] <;> rfl) | (simp [bne_nil_]; done), by repeat (first | (with_reducible first | exact HB.out | apply below_alloc | apply pw_below_drewN | apply below_drew1 | refine below_set ?_ GE132.out) | exact HB.out)⟩
     · rw [if_neg c6] at H
       exact absurd H (by simp)
   · rw [if_neg c5] at H
     exact absurd H (by simp)
 · rw [if_neg c4] at H
   have c4b0 : decide (0 ≤ t134) = false := decide_eq_false c4
   clear c4
   replace H := Option.bind_eq_some_iff.mp H
   obtain ⟨t139, A330, H⟩ := H
   replace H : (if t139 ≥ 0 then (if 0 ≤ t139 then (if t139 ≤ (t133.size : Int) then (if 0 ≤ (wrap64 (t139 + 1)) then (if (wrap64 (t139 + 1)) ≤ (t133.size : Int) then (some (false, (⟨#[]⟩ : ByteArray), t133.extract 0 (t139 : Int).toNat, t133.extract ((wrap64 (t139 + 1)) : Int).toNat t133.size, true)) else (none)) else (none)) else (none)) else (none)) else (some (false, (⟨#[]⟩ : ByteArray), t133, (⟨#[48]⟩ : ByteArray), true))) = some (r1, r2, r3, r4, r5) := H
   have A33 := Aside0.mk A330
   clear A330
   by_cases c34 : t139 ≥ 0
   · rw [if_pos c34] at H
     have c34b0 : decide (0 ≤ t139) = true := decide_eq_true c34
     clear c34
     by_cases c35 : 0 ≤ t139
     · rw [if_pos c35] at H
       have c35b0 := eq_true c35
       have c35b1 : decide (0 ≤ t139) = true := decide_eq_true c35
       clear c35
       by_cases c36 : t139 ≤ (t133.size : Int)
       · rw [if_pos c36] at H
         have c36b0 := eq_true c36
         have c36b1 : decide (t139 ≤ (t133.size : Int)) = true := decide_eq_true c36
         clear c36
         obtain ⟨ji37, hji37⟩ : ∃ j_ : Int, (wrap64 (t139 + 1)) = j_ := ⟨_, rfl⟩
         replace H : (if 0 ≤ (ji37) then (if (ji37) ≤ (t133.size : Int) then (some (false, (⟨#[]⟩ : ByteArray), t133.extract 0 (t139 : Int).toNat, t133.extract ((ji37) : Int).toNat t133.size, true)) else (none)) else (none)) = some (r1, r2, r3, r4, r5) := by first | (rw [hji37] at H; exact H) | (simp only [hji37] at H ⊢; exact H)
         (try rw [hji37] at A2)
         (try rw [hji37] at A3)
         (try rw [hji37] at A33)
         have hji37w : (IntKind.i64.wrap (t139 + 1)) = ji37 := (i64_w _).trans hji37
         by_cases c38 : 0 ≤ (ji37)
         · rw [if_pos c38] at H
           have c38b0 := eq_true c38
           have c38b1 : decide (0 ≤ (ji37)) = true := decide_eq_true c38
           clear c38
           by_cases c39 : (ji37) ≤ (t133.size : Int)
           · rw [if_pos c39] at H
             have c39b0 := eq_true c39
             have c39b1 : decide ((ji37) ≤ (t133.size : Int)) = true := decide_eq_true c39
             clear c39
             simp only [Option.some.injEq, Prod.mk.injEq] at H
             obtain ⟨rfl, rfl, rfl, rfl, rfl⟩ := H
             go_enter Tryd.func10, Tryd.ntmps10
             try go_wp2_with (first | ((with_reducible refine gate_dst (N := 2) rfl ?_); refine box_event ?hg (N := 2) ?hd (cs := #[.bool false, .string (⟨#[]⟩ : ByteArray), .string (⟨#[]⟩ : ByteArray), .string (⟨#[]⟩ : ByteArray)]) (t := 27) ?hr ?_; (case hd => rfl); (case hg => rfl); (case hr => first | (go_simp; done) | (go_simp; rfl)); intro gb132 hg w40 hbox hb; have n0_ := Aside0.mk (below_step (by repeat (first | (with_reducible first | exact HB.out | apply below_alloc | apply pw_below_drewN | apply below_drew1) | exact HB.out)) hb); have n1_ := Aside0.mk (hbox); have n2_ := Aside0.mk ((by rw [hg]; exact (below_size (by repeat (first | (with_reducible first | exact HB.out | apply below_alloc | apply pw_below_drewN | apply below_drew1) | exact HB.out))) : w.heap.size ≤ gb132)); have n3_ := Aside0.mk ((by rw [hg]; exact (below_size (by repeat (first | (with_reducible first | exact HB.out | apply below_alloc | apply pw_below_drewN | apply below_drew1) | exact HB.out))) : w.heap.size ≤ gb132)); clear HB; have HB := n0_; have BK132 := n1_; have GW132 := n2_; have GE132 := n3_; clear n0_ n1_ n2_ n3_; clear hb hbox hg) | ((with_reducible refine gate_callee (f := 16) rfl ?_); refine goesL_ (some 7) rfl rfl Tryd.func16 (by kernel_rfl) rfl #[.string a0] rfl (by (try simp only [List.map_toArray, List.map_cons, List.map_nil]); first | done | rfl | (simp only [List.length_drop, List.length_take]; rfl)) ?_; (with_reducible refine (spec_debTrim.calls k a0 t133 _ A2.out).mono ?_); rintro e w' ⟨rfl, ⟨nd, rfl⟩⟩; refine ⟨_, rfl, ?_⟩; (try (rw [drewN_self w40]; generalize hq_ : World.drewN w40 _ = w40; have n0_ : Aside0 (w40.heap[gb132]? = some (.cells #[.bool false, .string (⟨#[]⟩ : ByteArray), .string (⟨#[]⟩ : ByteArray), .string (⟨#[]⟩ : ByteArray)] 27 (0, 0))) := ⟨by rw [← hq_]; exact (by (with_reducible repeat (first | refine blk_drewN ?_ _ | refine blk_drew ?_ | refine blk_alloc ?_ _)); exact BK132.out)⟩; have n1_ : Aside0 (Below w.heap.size w w40) := ⟨by rw [← hq_]; exact (by repeat (first | (with_reducible first | exact HB.out | apply below_alloc | apply pw_below_drewN | apply below_drew1 | refine below_set ?_ GE132.out) | exact HB.out))⟩; clear BK132 HB hq_; have BK132 := n0_; have HB := n1_; clear n0_ n1_))) | ((with_reducible refine gate_callee (f := 17) rfl ?_); refine goesL_ (some 9) rfl rfl Tryd.func17 (by kernel_rfl) rfl #[.string t133, .int .u8 58] rfl (by (try simp only [List.map_toArray, List.map_cons, List.map_nil]); first | done | rfl | (simp only [List.length_drop, List.length_take]; rfl)) ?_; (with_reducible refine (spec_indexOf.calls k t133 58 t134 _ A3.out).mono ?_); rintro e w' ⟨rfl, ⟨nd, rfl⟩⟩; refine ⟨_, rfl, ?_⟩; (try (rw [drewN_self w40]; generalize hq_ : World.drewN w40 _ = w40; have n0_ : Aside0 (w40.heap[gb132]? = some (.cells #[.bool false, .string (⟨#[]⟩ : ByteArray), .string (⟨#[]⟩ : ByteArray), .string (⟨#[]⟩ : ByteArray)] 27 (0, 0))) := ⟨by rw [← hq_]; exact (by (with_reducible repeat (first | refine blk_drewN ?_ _ | refine blk_drew ?_ | refine blk_alloc ?_ _)); exact BK132.out)⟩; have n1_ : Aside0 (Below w.heap.size w w40) := ⟨by rw [← hq_]; exact (by repeat (first | (with_reducible first | exact HB.out | apply below_alloc | apply pw_below_drewN | apply below_drew1 | refine below_set ?_ GE132.out) | exact HB.out))⟩; clear BK132 HB hq_; have BK132 := n0_; have HB := n1_; clear n0_ n1_)); have hcz41_0 : w40.cell? ⟨gb132, 0, none⟩ = some (.bool false) := (blk_cell BK132.out 0).trans rfl; have hcz41_1 : w40.cell? ⟨gb132, 1, none⟩ = some (.string (⟨#[]⟩ : ByteArray)) := (blk_cell BK132.out 1).trans rfl; have hcz41_2 : w40.cell? ⟨gb132, 2, none⟩ = some (.string (⟨#[]⟩ : ByteArray)) := (blk_cell BK132.out 2).trans rfl; have hcz41_3 : w40.cell? ⟨gb132, 3, none⟩ = some (.string (⟨#[]⟩ : ByteArray)) := (blk_cell BK132.out 3).trans rfl; have hfz41_0 := blk_frozen BK132.out 0; have hfz41_1 := blk_frozen BK132.out 1; have hfz41_2 := blk_frozen BK132.out 2; have hfz41_3 := blk_frozen BK132.out 3) | ((with_reducible refine gate_callee (f := 22) rfl ?_); refine goesL_ (some 31) rfl rfl Tryd.func22 (by kernel_rfl) rfl #[.string t133, .int .u8 45] rfl (by (try simp only [List.map_toArray, List.map_cons, List.map_nil]); first | done | rfl | (simp only [List.length_drop, List.length_take]; rfl)) ?_; (with_reducible refine (spec_lastOf.calls k t133 45 t139 _ A33.out).mono ?_); rintro e w' ⟨rfl, ⟨nd, rfl⟩⟩; refine ⟨_, rfl, ?_⟩))
             have n0_ : Aside0 (((w40.setCell ⟨gb132, 2, none⟩ (.string t133)).setCell ⟨gb132, 3, none⟩ (.string (⟨#[48]⟩ : ByteArray))).heap[gb132]? = some (.cells #[.bool false, .string (⟨#[]⟩ : ByteArray), .string t133, .string (⟨#[48]⟩ : ByteArray)] 27 (0, 0))) := ⟨by (with_reducible repeat (first | refine blk_drewN ?_ _ | refine blk_drew ?_ | refine blk_alloc ?_ _)); refine blk_put (cs := #[.bool false, .string (⟨#[]⟩ : ByteArray), .string t133, .string (⟨#[]⟩ : ByteArray)]) ?_ 3 _ rfl; (with_reducible repeat (first | refine blk_drewN ?_ _ | refine blk_drew ?_ | refine blk_alloc ?_ _)); refine blk_put (cs := #[.bool false, .string (⟨#[]⟩ : ByteArray), .string (⟨#[]⟩ : ByteArray), .string (⟨#[]⟩ : ByteArray)]) ?_ 2 _ rfl; (with_reducible repeat (first | refine blk_drewN ?_ _ | refine blk_drew ?_ | refine blk_alloc ?_ _)); exact BK132.out⟩
             have n1_ : Aside0 (Below w.heap.size w ((w40.setCell ⟨gb132, 2, none⟩ (.string t133)).setCell ⟨gb132, 3, none⟩ (.string (⟨#[48]⟩ : ByteArray)))) := ⟨by repeat (first | (with_reducible first | exact HB.out | apply below_alloc | apply pw_below_drewN | apply below_drew1 | refine below_set ?_ GE132.out) | exact HB.out)⟩
             (try clear BK132)
             (try clear HB)
             generalize ((w40.setCell ⟨gb132, 2, none⟩ (.string t133)).setCell ⟨gb132, 3, none⟩ (.string (⟨#[48]⟩ : ByteArray))) = w42 at n0_ n1_ ⊢
             have BK132 := n0_
             have HB := n1_
             clear n0_ n1_
             (try (rw [drewN_self w42]; generalize hq_ : World.drewN w42 _ = w42; have n0_ : Aside0 (w42.heap[gb132]? = some (.cells #[.bool false, .string (⟨#[]⟩ : ByteArray), .string t133, .string (⟨#[48]⟩ : ByteArray)] 27 (0, 0))) := ⟨by rw [← hq_]; exact (by (with_reducible repeat (first | refine blk_drewN ?_ _ | refine blk_drew ?_ | refine blk_alloc ?_ _)); exact BK132.out)⟩; have n1_ : Aside0 (Below w.heap.size w w42) := ⟨by rw [← hq_]; exact (by repeat (first | (with_reducible first | exact HB.out | apply below_alloc | apply pw_below_drewN | apply below_drew1 | refine below_set ?_ GE132.out) | exact HB.out))⟩; clear BK132 HB hq_; have BK132 := n0_; have HB := n1_; clear n0_ n1_))
             have n0_ := Aside0.mk (blk_drew BK132.out)
             have n1_ := Aside0.mk (below_drew1 HB.out)
             clear BK132
             clear HB
             have BK132 := n0_
             have HB := n1_
             clear n0_ n1_
             refine start_ (n := 11) (S := fun w' => True) (ds := []) #[false, false, false, false, false, false, false, false, false, false, false] (by kernel_rfl) rfl rfl trivial (fun hHeld => ?_); refine with_tabW spec_DebianParse.tab11 spec_DebianParse.bits11 (fun HT_ HW_ => ?_)
             generalize w42.drew = w43 at BK132 HB hHeld ⊢
             refine pure_ (i := 0) (N := some 34) (v := ?_) (a' := ?_) #[true, false, false, false, false, false, false, false, false, false, false] rfl rfl (any_of HT_.out (by kernel_rfl)) (fun _ _ _ h => h) (Or.inl ⟨by rfl, ?_⟩) ?_ ?_
             rotate_left
             · intro w'
               go_simp
               with_reducible rfl
             rotate_left
             · simp only [Act.put, List.setIfInBounds_toArray, List.set_cons_zero, List.set_cons_succ, i64_w, i32_w]
               rfl
             refine pure_ (i := 1) (N := some 35) (v := ?_) (a' := ?_) #[true, true, false, false, false, false, false, false, false, false, false] rfl rfl (any_of HT_.out (by kernel_rfl)) (fun _ _ _ h => h) (Or.inl ⟨by rfl, ?_⟩) ?_ ?_
             rotate_left
             · intro w'
               go_simp
               with_reducible rfl
             rotate_left
             · simp only [Act.put, List.setIfInBounds_toArray, List.set_cons_zero, List.set_cons_succ, i64_w, i32_w]
               rfl
             refine pure_ (i := 2) (N := some 36) (v := ?_) (a' := ?_) #[true, true, true, false, false, false, false, false, false, false, false] rfl rfl (any_of HT_.out (by kernel_rfl)) (fun _ _ _ h => h) (Or.inl ⟨by rfl, ?_⟩) ?_ ?_
             rotate_left
             · intro w'
               go_simp
               with_reducible rfl
             rotate_left
             · simp only [Act.put, List.setIfInBounds_toArray, List.set_cons_zero, List.set_cons_succ, i64_w, i32_w]
               rfl
             refine pure_ (i := 3) (N := some 37) (v := ?_) (a' := ?_) #[true, true, true, true, false, false, false, false, false, false, false] rfl rfl (any_of HT_.out (by kernel_rfl)) (fun _ _ _ h => h) (Or.inl ⟨by rfl, ?_⟩) ?_ ?_
             rotate_left
             · intro w'
               go_simp
               with_reducible rfl
             rotate_left
             · simp only [Act.put, List.setIfInBounds_toArray, List.set_cons_zero, List.set_cons_succ, i64_w, i32_w]
               rfl
             refine pure_ (i := 4) (N := some 38) (v := ?_) (a' := ?_) #[true, true, true, true, true, false, false, false, false, false, false] rfl rfl (any_of HT_.out (by kernel_rfl)) (fun _ _ _ h => h) (Or.inl ⟨by rfl, ?_⟩) ?_ ?_
             rotate_left
             · intro w'
               go_simp
               with_reducible rfl
             rotate_left
             · simp only [Act.put, List.setIfInBounds_toArray, List.set_cons_zero, List.set_cons_succ, i64_w, i32_w]
               rfl
             refine pure_ (i := 5) (N := some 39) (v := ?_) (a' := ?_) #[true, true, true, true, true, true, false, false, false, false, false] rfl rfl (any_of HT_.out (by kernel_rfl)) (fun _ _ _ h => h) (Or.inl ⟨by rfl, ?_⟩) ?_ ?_
             rotate_left
             · intro w'
               go_simp
               with_reducible rfl
             rotate_left
             · simp only [Act.put, List.setIfInBounds_toArray, List.set_cons_zero, List.set_cons_succ, i64_w, i32_w]
               rfl
             refine pure_ (i := 6) (N := some 40) (v := ?_) (a' := ?_) #[true, true, true, true, true, true, true, false, false, false, false] rfl rfl (any_of HT_.out (by kernel_rfl)) (fun _ _ _ h => h) (Or.inl ⟨by rfl, ?_⟩) ?_ ?_
             rotate_left
             · intro w'
               go_simp
               with_reducible rfl
             rotate_left
             · simp only [Act.put, List.setIfInBounds_toArray, List.set_cons_zero, List.set_cons_succ, i64_w, i32_w]
               rfl
             refine pure_ (i := 7) (N := some 41) (v := ?_) (a' := ?_) #[true, true, true, true, true, true, true, true, false, false, false] rfl rfl (any_of HT_.out (by kernel_rfl)) (fun _ _ _ h => h) (Or.inl ⟨by rfl, ?_⟩) ?_ ?_
             rotate_left
             · intro w'
               go_simp
               with_reducible rfl
             rotate_left
             · simp only [Act.put, List.setIfInBounds_toArray, List.set_cons_zero, List.set_cons_succ, i64_w, i32_w]
               rfl
             refine one_ (i := 8) (N := none) #[true, true, true, true, true, true, true, true, true, false, false] rfl rfl (one_of HT_.out (by kernel_rfl)) (by decide) (fun K hK => ?_)
             have hs44 : w43.cell? ⟨gb132, 2, none⟩ = some (.string t133) := (blk_cell BK132.out 2).trans rfl
             have hfs44 := blk_frozen BK132.out 2
             refine skip_ (w1 := ?_) (by rfl) rfl ?_ ?_
             rotate_left
             · go_simp
               rfl
             refine hK.out _ _ trivial (fun hHeld => ?_)
             clear hK K
             refine pure_ (i := 9) (N := some 42) (v := ?_) (a' := ?_) #[true, true, true, true, true, true, true, true, true, true, false] rfl rfl (any_of HT_.out (by kernel_rfl)) (fun _ _ _ h => h) (Or.inl ⟨by rfl, ?_⟩) ?_ ?_
             rotate_left
             · intro w'
               go_simp
               with_reducible rfl
             rotate_left
             · simp only [Act.put, List.setIfInBounds_toArray, List.set_cons_zero, List.set_cons_succ, i64_w, i32_w]
               rfl
             refine one_ (i := 10) (N := none) #[true, true, true, true, true, true, true, true, true, true, true] rfl rfl (one_of HT_.out (by kernel_rfl)) (by decide) (fun K hK => ?_)
             have hs45 : w43.cell? ⟨gb132, 3, none⟩ = some (.string (⟨#[48]⟩ : ByteArray)) := (blk_cell BK132.out 3).trans rfl
             have hfs45 := blk_frozen BK132.out 3
             refine skip_ (w1 := ?_) (by rfl) rfl ?_ ?_
             rotate_left
             · go_simp
               rfl
             refine hK.out _ _ trivial (fun hHeld => ?_)
             clear hK K
             refine done_ (done_of HT_.out (by kernel_rfl)) ?_
             have hcz46_0 : w43.cell? ⟨gb132, 0, none⟩ = some (.bool false) := (blk_cell BK132.out 0).trans rfl
             have hcz46_1 : w43.cell? ⟨gb132, 1, none⟩ = some (.string (⟨#[]⟩ : ByteArray)) := (blk_cell BK132.out 1).trans rfl
             have hcz46_2 : w43.cell? ⟨gb132, 2, none⟩ = some (.string t133) := (blk_cell BK132.out 2).trans rfl
             have hcz46_3 : w43.cell? ⟨gb132, 3, none⟩ = some (.string (⟨#[48]⟩ : ByteArray)) := (blk_cell BK132.out 3).trans rfl
             have hfz46_0 := blk_frozen BK132.out 0
             have hfz46_1 := blk_frozen BK132.out 1
             have hfz46_2 := blk_frozen BK132.out 2
             have hfz46_3 := blk_frozen BK132.out 3
             try go_wp2
             refine bodyPost_ret (results_ct rfl _ _ gb132 27 #[.bool false, .string (⟨#[]⟩ : ByteArray), .string (t133.extract 0 (t139 : Int).toNat), .string (t133.extract ((ji37) : Int).toNat t133.size)] (0, 0) _ rfl (by (with_reducible repeat (first | refine blk_drewN ?_ _ | refine blk_drew ?_ | refine blk_alloc ?_ _)); refine blk_put (cs := #[.bool false, .string (⟨#[]⟩ : ByteArray), .string (t133.extract 0 (t139 : Int).toNat), .string (t133.extract ((ji37) : Int).toNat t133.size)]) ?_ 3 _ rfl; (with_reducible repeat (first | refine blk_drewN ?_ _ | refine blk_drew ?_ | refine blk_alloc ?_ _)); refine blk_put (cs := #[.bool false, .string (⟨#[]⟩ : ByteArray), .string (t133.extract 0 (t139 : Int).toNat), .string (t133.extract ((ji37) : Int).toNat t133.size)]) ?_ 2 _ rfl; (with_reducible repeat (first | refine blk_drewN ?_ _ | refine blk_drew ?_ | refine blk_alloc ?_ _)); refine blk_put (cs := #[.bool false, .string (⟨#[]⟩ : ByteArray), .string (t133.extract 0 (t139 : Int).toNat), .string (t133.extract ((ji37) : Int).toNat t133.size)]) ?_ 1 _ rfl; (with_reducible repeat (first | refine blk_drewN ?_ _ | refine blk_drew ?_ | refine blk_alloc ?_ _)); refine blk_put (cs := #[.bool false, .string (⟨#[]⟩ : ByteArray), .string (t133.extract 0 (t139 : Int).toNat), .string (t133.extract ((ji37) : Int).toNat t133.size)]) ?_ 0 _ rfl; (with_reducible repeat (first | refine blk_drewN ?_ _ | refine blk_drew ?_ | refine blk_alloc ?_ _)); refine blk_put (cs := #[.bool false, .string (⟨#[]⟩ : ByteArray), .string (t133.extract 0 (t139 : Int).toNat), .string (⟨#[48]⟩ : ByteArray)]) ?_ 3 _ rfl; (with_reducible repeat (first | refine blk_drewN ?_ _ | refine blk_drew ?_ | refine blk_alloc ?_ _)); refine blk_put (cs := #[.bool false, .string (⟨#[]⟩ : ByteArray), .string t133, .string (⟨#[48]⟩ : ByteArray)]) ?_ 2 _ rfl; (with_reducible repeat (first | refine blk_drewN ?_ _ | refine blk_drew ?_ | refine blk_alloc ?_ _)); exact BK132.out) Tryd.underlying27 rfl (by kernel_rfl)) rfl ?_
             exact ⟨by first | rfl | (simp [errW_none, errW_some] <;> rfl) | (simp only [← hji37]; first | rfl | (simp [errW_none, errW_some] <;> rfl)) | (simp [*, errW_none, errW_some] <;> rfl) | (simp [bne_nil_]; done), by repeat (first | (with_reducible first | exact HB.out | apply below_alloc | apply pw_below_drewN | apply below_drew1 | refine below_set ?_ GE132.out) | exact HB.out)⟩
           · rw [if_neg c39] at H
             exact absurd H (by simp)
         · rw [if_neg c38] at H
           exact absurd H (by simp)
       · rw [if_neg c36] at H
         exact absurd H (by simp)
     · rw [if_neg c35] at H
       exact absurd H (by simp)
   · rw [if_neg c34] at H
     have c34b0 : decide (0 ≤ t139) = false := decide_eq_false c34
     clear c34
     simp only [Option.some.injEq, Prod.mk.injEq] at H
     obtain ⟨rfl, rfl, rfl, rfl, rfl⟩ := H
     go_enter Tryd.func10, Tryd.ntmps10
     go_wp2_with (first | ((with_reducible refine gate_dst (N := 2) rfl ?_); refine box_event ?hg (N := 2) ?hd (cs := #[.bool false, .string (⟨#[]⟩ : ByteArray), .string (⟨#[]⟩ : ByteArray), .string (⟨#[]⟩ : ByteArray)]) (t := 27) ?hr ?_; (case hd => rfl); (case hg => rfl); (case hr => first | (go_simp; done) | (go_simp; rfl)); intro gb132 hg w47 hbox hb; have n0_ := Aside0.mk (below_step (by repeat (first | (with_reducible first | exact HB.out | apply below_alloc | apply pw_below_drewN | apply below_drew1) | exact HB.out)) hb); have n1_ := Aside0.mk (hbox); have n2_ := Aside0.mk ((by rw [hg]; exact (below_size (by repeat (first | (with_reducible first | exact HB.out | apply below_alloc | apply pw_below_drewN | apply below_drew1) | exact HB.out))) : w.heap.size ≤ gb132)); have n3_ := Aside0.mk ((by rw [hg]; exact (below_size (by repeat (first | (with_reducible first | exact HB.out | apply below_alloc | apply pw_below_drewN | apply below_drew1) | exact HB.out))) : w.heap.size ≤ gb132)); clear HB; have HB := n0_; have BK132 := n1_; have GW132 := n2_; have GE132 := n3_; clear n0_ n1_ n2_ n3_; clear hb hbox hg) | ((with_reducible refine gate_callee (f := 16) rfl ?_); refine goesL_ (some 7) rfl rfl Tryd.func16 (by kernel_rfl) rfl #[.string a0] rfl (by (try simp only [List.map_toArray, List.map_cons, List.map_nil]); first | done | rfl | (simp only [List.length_drop, List.length_take]; rfl)) ?_; (with_reducible refine (spec_debTrim.calls k a0 t133 _ A2.out).mono ?_); rintro e w' ⟨rfl, ⟨nd, rfl⟩⟩; refine ⟨_, rfl, ?_⟩; (try (rw [drewN_self w47]; generalize hq_ : World.drewN w47 _ = w47; have n0_ : Aside0 (w47.heap[gb132]? = some (.cells #[.bool false, .string (⟨#[]⟩ : ByteArray), .string (⟨#[]⟩ : ByteArray), .string (⟨#[]⟩ : ByteArray)] 27 (0, 0))) := ⟨by rw [← hq_]; exact (by (with_reducible repeat (first | refine blk_drewN ?_ _ | refine blk_drew ?_ | refine blk_alloc ?_ _)); exact BK132.out)⟩; have n1_ : Aside0 (Below w.heap.size w w47) := ⟨by rw [← hq_]; exact (by repeat (first | (with_reducible first | exact HB.out | apply below_alloc | apply pw_below_drewN | apply below_drew1 | refine below_set ?_ GE132.out) | exact HB.out))⟩; clear BK132 HB hq_; have BK132 := n0_; have HB := n1_; clear n0_ n1_))) | ((with_reducible refine gate_callee (f := 17) rfl ?_); refine goesL_ (some 9) rfl rfl Tryd.func17 (by kernel_rfl) rfl #[.string t133, .int .u8 58] rfl (by (try simp only [List.map_toArray, List.map_cons, List.map_nil]); first | done | rfl | (simp only [List.length_drop, List.length_take]; rfl)) ?_; (with_reducible refine (spec_indexOf.calls k t133 58 t134 _ A3.out).mono ?_); rintro e w' ⟨rfl, ⟨nd, rfl⟩⟩; refine ⟨_, rfl, ?_⟩; (try (rw [drewN_self w47]; generalize hq_ : World.drewN w47 _ = w47; have n0_ : Aside0 (w47.heap[gb132]? = some (.cells #[.bool false, .string (⟨#[]⟩ : ByteArray), .string (⟨#[]⟩ : ByteArray), .string (⟨#[]⟩ : ByteArray)] 27 (0, 0))) := ⟨by rw [← hq_]; exact (by (with_reducible repeat (first | refine blk_drewN ?_ _ | refine blk_drew ?_ | refine blk_alloc ?_ _)); exact BK132.out)⟩; have n1_ : Aside0 (Below w.heap.size w w47) := ⟨by rw [← hq_]; exact (by repeat (first | (with_reducible first | exact HB.out | apply below_alloc | apply pw_below_drewN | apply below_drew1 | refine below_set ?_ GE132.out) | exact HB.out))⟩; clear BK132 HB hq_; have BK132 := n0_; have HB := n1_; clear n0_ n1_)); have hcz48_0 : w47.cell? ⟨gb132, 0, none⟩ = some (.bool false) := (blk_cell BK132.out 0).trans rfl; have hcz48_1 : w47.cell? ⟨gb132, 1, none⟩ = some (.string (⟨#[]⟩ : ByteArray)) := (blk_cell BK132.out 1).trans rfl; have hcz48_2 : w47.cell? ⟨gb132, 2, none⟩ = some (.string (⟨#[]⟩ : ByteArray)) := (blk_cell BK132.out 2).trans rfl; have hcz48_3 : w47.cell? ⟨gb132, 3, none⟩ = some (.string (⟨#[]⟩ : ByteArray)) := (blk_cell BK132.out 3).trans rfl; have hfz48_0 := blk_frozen BK132.out 0; have hfz48_1 := blk_frozen BK132.out 1; have hfz48_2 := blk_frozen BK132.out 2; have hfz48_3 := blk_frozen BK132.out 3) | ((with_reducible refine gate_callee (f := 22) rfl ?_); refine goesL_ (some 31) rfl rfl Tryd.func22 (by kernel_rfl) rfl #[.string t133, .int .u8 45] rfl (by (try simp only [List.map_toArray, List.map_cons, List.map_nil]); first | done | rfl | (simp only [List.length_drop, List.length_take]; rfl)) ?_; (with_reducible refine (spec_lastOf.calls k t133 45 t139 _ A33.out).mono ?_); rintro e w' ⟨rfl, ⟨nd, rfl⟩⟩; refine ⟨_, rfl, ?_⟩))
     refine bodyPost_ret (results_ct rfl _ _ gb132 27 #[.bool false, .string (⟨#[]⟩ : ByteArray), .string t133, .string (⟨#[48]⟩ : ByteArray)] (0, 0) _ rfl (by (with_reducible repeat (first | refine blk_drewN ?_ _ | refine blk_drew ?_ | refine blk_alloc ?_ _)); refine blk_put (cs := #[.bool false, .string (⟨#[]⟩ : ByteArray), .string t133, .string (⟨#[48]⟩ : ByteArray)]) ?_ 3 _ rfl; (with_reducible repeat (first | refine blk_drewN ?_ _ | refine blk_drew ?_ | refine blk_alloc ?_ _)); refine blk_put (cs := #[.bool false, .string (⟨#[]⟩ : ByteArray), .string t133, .string (⟨#[48]⟩ : ByteArray)]) ?_ 2 _ rfl; (with_reducible repeat (first | refine blk_drewN ?_ _ | refine blk_drew ?_ | refine blk_alloc ?_ _)); refine blk_put (cs := #[.bool false, .string (⟨#[]⟩ : ByteArray), .string t133, .string (⟨#[48]⟩ : ByteArray)]) ?_ 1 _ rfl; (with_reducible repeat (first | refine blk_drewN ?_ _ | refine blk_drew ?_ | refine blk_alloc ?_ _)); refine blk_put (cs := #[.bool false, .string (⟨#[]⟩ : ByteArray), .string t133, .string (⟨#[48]⟩ : ByteArray)]) ?_ 0 _ rfl; (with_reducible repeat (first | refine blk_drewN ?_ _ | refine blk_drew ?_ | refine blk_alloc ?_ _)); refine blk_put (cs := #[.bool false, .string (⟨#[]⟩ : ByteArray), .string t133, .string (⟨#[]⟩ : ByteArray)]) ?_ 3 _ rfl; (with_reducible repeat (first | refine blk_drewN ?_ _ | refine blk_drew ?_ | refine blk_alloc ?_ _)); refine blk_put (cs := #[.bool false, .string (⟨#[]⟩ : ByteArray), .string (⟨#[]⟩ : ByteArray), .string (⟨#[]⟩ : ByteArray)]) ?_ 2 _ rfl; (with_reducible repeat (first | refine blk_drewN ?_ _ | refine blk_drew ?_ | refine blk_alloc ?_ _)); exact BK132.out) Tryd.underlying27 rfl (by kernel_rfl)) rfl ?_
     exact ⟨by first | rfl | (simp [errW_none, errW_some] <;> rfl) | (simp [*, errW_none, errW_some] <;> rfl) | (simp [bne_nil_]; done), by repeat (first | (with_reducible first | exact HB.out | apply below_alloc | apply pw_below_drewN | apply below_drew1 | refine below_set ?_ GE132.out) | exact HB.out)⟩

/-! ### spec_numTidy: function 36 -/
def spec_numTidy.l0 : Nat → Bool → ByteArray → Option (Bool × ByteArray)
 | 0, _, _ => none
 | k + 1, x141000, x141001 => if (x141001.size : Int) > 0 then (if 0 < (x141001.size : Int) then (if (bt x141001 0) = 0 then (if 1 ≤ (x141001.size : Int) then (spec_numTidy.l0 k x141000 (x141001.extract 1 x141001.size)) else (none)) else (if x141000 = true then (some ((x141001.toList != ([] : List UInt8)), x141001)) else (some (false, x141001)))) else (none)) else (if x141000 = true then (some ((x141001.toList != ([] : List UInt8)), x141001)) else (some (false, x141001)))
def spec_numTidy.f (k : Nat) (a0_0 : Bool) (a0_1 : ByteArray) : Option (Bool × ByteArray) := spec_numTidy.l0 k a0_0 a0_1
theorem spec_numTidy.mono_l : ∀ k, (∀ y0 y1, LeO (spec_numTidy.l0 k y0 y1) (spec_numTidy.l0 (k + 1) y0 y1))
 | 0 => fun _ _ r h => by simp [spec_numTidy.l0] at h
 | k + 1 => by
  have ih0 := spec_numTidy.mono_l k
  · intro y0 y1
    unfold spec_numTidy.l0
    repeat' first
    | (with_reducible exact ih0 _ _)
    | (with_reducible exact LeO.refl _)
    | (with_reducible exact LeO.none _)
    | (with_reducible refine LeO.ite ?_ ?_)
    | (with_reducible refine LeO.bind ?_ (fun _ => ?_))
    | exact ih0 _ _
    | exact LeO.none _
    | refine LeO.ite ?_ ?_
    | refine LeO.bind ?_ (fun _ => ?_)
theorem spec_numTidy.mono : ∀ a0 a1 k, LeO (spec_numTidy.f k a0 a1) (spec_numTidy.f (k + 1) a0 a1) := by
 intro a0 a1 k
 have ih0 := spec_numTidy.mono_l k
 unfold spec_numTidy.f
 repeat' first
  | (with_reducible exact ih0 _ _)
  | (with_reducible exact LeO.refl _)
  | (with_reducible exact LeO.none _)
  | (with_reducible refine LeO.ite ?_ ?_)
  | (with_reducible refine LeO.bind ?_ (fun _ => ?_))
  | exact ih0 _ _
  | exact LeO.none _
  | refine LeO.ite ?_ ?_
  | refine LeO.bind ?_ (fun _ => ?_)
set_option maxHeartbeats 8000000 in
set_option maxRecDepth 100000 in
theorem spec_numTidy.calls (k : Nat) (a0_0 : Bool) (a0_1 : ByteArray) (r1 : Bool) (r2 : ByteArray) (w : World) (h : spec_numTidy.f k a0_0 a0_1 = some (r1, r2)) :
 Calls Tryd.prog 36 #[.agg #[.bool a0_0, .string a0_1]] w fun e w' => e = .returned (.agg #[.bool r1, .string r2]) ∧ Below w.heap.size w w' := by
 have hu25 := Tryd.underlying25
 have HB := Aside0.mk (Below.refl w.heap.size w)
 have H : (spec_numTidy.l0 k a0_0 a0_1) = some (r1, r2) := h
 clear h
 have H' := Aside0.mk H
 clear H
 go_enter Tryd.func36, Tryd.ntmps36
 go_wp2_with (first | ((with_reducible refine gate_dst (N := 1) rfl ?_); refine box_event ?hg (N := 1) ?hd (cs := #[.bool a0_0, .string a0_1]) (t := 25) ?hr ?_; (case hd => rfl); (case hg => rfl); (case hr => first | (go_simp; done) | (go_simp; rfl)); intro gb140 hg w2 hbox hb; have n0_ := Aside0.mk (below_step (by repeat (first | (with_reducible first | exact HB.out | apply below_alloc | apply pw_below_drewN | apply below_drew1) | exact HB.out)) hb); have n1_ := Aside0.mk (hbox); have n2_ := Aside0.mk ((by rw [hg]; exact (below_size (by repeat (first | (with_reducible first | exact HB.out | apply below_alloc | apply pw_below_drewN | apply below_drew1) | exact HB.out))) : w.heap.size ≤ gb140)); have n3_ := Aside0.mk ((by rw [hg]; exact (below_size (by repeat (first | (with_reducible first | exact HB.out | apply below_alloc | apply pw_below_drewN | apply below_drew1) | exact HB.out))) : w.heap.size ≤ gb140)); clear HB; have HB := n0_; have BK140 := n1_; have GW140 := n2_; have GE140 := n3_; clear n0_ n1_ n2_ n3_; clear hb hbox hg) | ((with_reducible refine gate_dst (N := 2) rfl ?_); refine box_event ?hg (N := 2) ?hd (cs := #[.bool false, .string (⟨#[]⟩ : ByteArray)]) (t := 25) ?hr ?_; (case hd => rfl); (case hg => rfl); (case hr => first | (go_simp; done) | (go_simp; rfl)); intro gb141 hg w3 hbox hb; have n0_ := Aside0.mk (blk_below (g := gb140) (o := .cells #[.bool a0_0, .string a0_1] 25 (0, 0)) (by (with_reducible repeat (first | refine blk_drewN ?_ _ | refine blk_drew ?_ | refine blk_alloc ?_ _)); exact BK140.out) hb); have n1_ := Aside0.mk (below_step (by repeat (first | (with_reducible first | exact HB.out | apply below_alloc | apply pw_below_drewN | apply below_drew1 | refine below_set ?_ GE140.out) | exact HB.out)) hb); have n2_ := Aside0.mk (hbox); have n3_ := Aside0.mk ((by rw [hg]; exact (below_size (by repeat (first | (with_reducible first | exact HB.out | apply below_alloc | apply pw_below_drewN | apply below_drew1 | refine below_set ?_ GE140.out) | exact HB.out))) : w.heap.size ≤ gb141)); have n4_ := Aside0.mk ((by rw [hg]; exact (below_size (by repeat (first | (with_reducible first | exact HB.out | apply below_alloc | apply pw_below_drewN | apply below_drew1 | refine below_set ?_ GE140.out) | exact HB.out))) : w.heap.size ≤ gb141)); have n5_ := Aside0.mk ((by rw [hg]; exact Nat.ne_of_lt (blk_lt (g := gb140) (o := .cells #[.bool a0_0, .string a0_1] 25 (0, 0)) (by (with_reducible repeat (first | refine blk_drewN ?_ _ | refine blk_drew ?_ | refine blk_alloc ?_ _)); exact BK140.out)) : gb140 ≠ gb141)); have n6_ := Aside0.mk ((by rw [hg]; exact Nat.ne_of_gt (blk_lt (g := gb140) (o := .cells #[.bool a0_0, .string a0_1] 25 (0, 0)) (by (with_reducible repeat (first | refine blk_drewN ?_ _ | refine blk_drew ?_ | refine blk_alloc ?_ _)); exact BK140.out)) : gb141 ≠ gb140)); clear BK140; clear HB; have BK140 := n0_; have HB := n1_; have BK141 := n2_; have GW141 := n3_; have GE141 := n4_; have NB140_141 := n5_; have NB141_140 := n6_; clear n0_ n1_ n2_ n3_ n4_ n5_ n6_; clear hb hbox hg))
 try go_simp
 go_loopg [] k (fun kq w' => ∃ (x141001_1 : ByteArray), Aside0 (spec_numTidy.l0 kq a0_0 x141001_1 = some (r1, r2)) ∧ Aside0 (kq ≤ k) ∧ Aside0 (w'.heap[gb140]? = some (.cells #[.bool a0_0, .string x141001_1] 25 (0, 0))) ∧ Aside0 (w'.heap[gb141]? = some (.cells #[.bool false, .string (⟨#[]⟩ : ByteArray)] 25 (0, 0))) ∧ Aside0 (Below w.heap.size w w'))
 case atStart => exact ⟨(a0_1), H', ⟨Nat.le_refl _⟩, ⟨by (with_reducible repeat (first | refine blk_drewN ?_ _ | refine blk_drew ?_ | refine blk_alloc ?_ _)); exact BK140.out⟩, ⟨by (with_reducible repeat (first | refine blk_drewN ?_ _ | refine blk_drew ?_ | refine blk_alloc ?_ _)); exact BK141.out⟩, ⟨by repeat (first | (with_reducible first | exact HB.out | apply below_alloc | apply pw_below_drewN | apply below_drew1 | refine below_set ?_ GE140.out | refine below_set ?_ GE141.out) | exact HB.out)⟩⟩
 case round =>
  clear H'
  try clear p2
  try clear c3
  obtain ⟨x141001_1, HA, HK1, BK140, BK141, HB⟩ := hrel
  cases gk with
  | zero => exact absurd HA.out (by simp [spec_numTidy.l0])
  | succ k1 =>
   have H := HA.out
   clear HA
   simp only [spec_numTidy.l0] at H
   by_cases c4 : (x141001_1.size : Int) > 0
   · rw [if_pos c4] at H
     have c4b0 : decide (0 < (x141001_1.size : Int)) = true := decide_eq_true c4
     have c4b1 : decide (0 < x141001_1.size) = true := decide_eq_true (by omega)
     clear c4
     by_cases c5 : 0 < (x141001_1.size : Int)
     · rw [if_pos c5] at H
       have c5b0 : decide (0 < (x141001_1.size : Int)) = true := decide_eq_true c5
       have c5b1 : decide (0 < x141001_1.size) = true := decide_eq_true (by omega)
       clear c5
       by_cases c7 : (bt x141001_1 0) = 0
       · rw [if_pos c7] at H
         have c7b0 : ((bt x141001_1 0) == 0) = true := beq_iff_eq.mpr c7
         have c7b1 : ((bt x141001_1 0) != 0) = false := bne_eq_false_iff_eq.mpr c7
         clear c7
         by_cases c8 : 1 ≤ (x141001_1.size : Int)
         · rw [if_pos c8] at H
           have c8b0 := eq_true c8
           have c8b1 : decide (1 ≤ (x141001_1.size : Int)) = true := decide_eq_true c8
           clear c8
           have H' := Aside0.mk H
           clear H
           have hnb9 := NB140_141.out
           have hnc9 := NB141_140.out
           have hcz10_0 : wr.cell? ⟨gb140, 0, none⟩ = some (.bool a0_0) := (blk_cell BK140.out 0).trans rfl
           have hcz10_1 : wr.cell? ⟨gb140, 1, none⟩ = some (.string x141001_1) := (blk_cell BK140.out 1).trans rfl
           have hfz10_0 := blk_frozen BK140.out 0
           have hfz10_1 := blk_frozen BK140.out 1
           have p6 : 0 ≤ (0 : Int) := (by omega)
           have q6 : 0 < x141001_1.size := (by have : (0 : Int) < (x141001_1.size : Int) := of_decide_eq_true (by first | (with_reducible assumption) | assumption); omega)
           have hx6 : ∀ h : 0 < x141001_1.size, ((x141001_1[0]'h).toNat : Int) = bt x141001_1 0 := bt_at x141001_1 0
           clear p6
           have qi6 : (0 < (x141001_1.size : Int)) = True := eq_true (of_decide_eq_true (by first | (with_reducible assumption) | assumption))
           replace q6 := eq_true q6
           go_wp2
           go_roundg k1
           case measure => have := HK1.out; omega
           case rel => exact ⟨(x141001_1.extract 1 x141001_1.size), H', ⟨by have := HK1.out; omega⟩, ⟨by (with_reducible repeat (first | refine blk_drewN ?_ _ | refine blk_drew ?_ | refine blk_alloc ?_ _)); refine blk_put (cs := #[.bool a0_0, .string x141001_1]) ?_ 1 _ rfl; (with_reducible repeat (first | refine blk_drewN ?_ _ | refine blk_drew ?_ | refine blk_alloc ?_ _)); exact BK140.out⟩, ⟨by (with_reducible repeat (first | refine blk_drewN ?_ _ | refine blk_drew ?_ | refine blk_alloc ?_ _)); refine blk_far ?_ NB141_140.out _; (with_reducible repeat (first | refine blk_drewN ?_ _ | refine blk_drew ?_ | refine blk_alloc ?_ _)); exact BK141.out⟩, ⟨by repeat (first | (with_reducible first | exact HB.out | apply below_alloc | apply pw_below_drewN | apply below_drew1 | refine below_set ?_ GE140.out | refine below_set ?_ GE141.out) | exact HB.out)⟩⟩
         · rw [if_neg c8] at H
           exact absurd H (by simp)
       · rw [if_neg c7] at H
         have c7b0 : ((bt x141001_1 0) == 0) = false := beq_eq_false_iff_ne.mpr c7
         have c7b1 : ((bt x141001_1 0) != 0) = true := bne_iff_ne.mpr c7
         by_cases c11 : a0_0 = true
         · subst c11
           have H1 : (some ((x141001_1.toList != ([] : List UInt8)), x141001_1)) = some (r1, r2) := by rw [if_pos rfl] at H; exact H
           clear H
           have H := H1
           clear H1
           simp only [Option.some.injEq, Prod.mk.injEq] at H
           obtain ⟨rfl, rfl⟩ := H
           have hnb12 := NB140_141.out
           have hnc12 := NB141_140.out
           have hcz13_0 : wr.cell? ⟨gb140, 0, none⟩ = some (.bool true) := (blk_cell BK140.out 0).trans rfl
           have hcz13_1 : wr.cell? ⟨gb140, 1, none⟩ = some (.string x141001_1) := (blk_cell BK140.out 1).trans rfl
           have hfz13_0 := blk_frozen BK140.out 0
           have hfz13_1 := blk_frozen BK140.out 1
           have p6 : 0 ≤ (0 : Int) := (by omega)
           have q6 : 0 < x141001_1.size := (by have : (0 : Int) < (x141001_1.size : Int) := of_decide_eq_true (by first | (with_reducible assumption) | assumption); omega)
           have hx6 : ∀ h : 0 < x141001_1.size, ((x141001_1[0]'h).toNat : Int) = bt x141001_1 0 := bt_at x141001_1 0
           clear p6
           have qi6 : (0 < (x141001_1.size : Int)) = True := eq_true (of_decide_eq_true (by first | (with_reducible assumption) | assumption))
           replace q6 := eq_true q6
           have hcz14_0 : wr.cell? ⟨gb141, 0, none⟩ = some (.bool false) := (blk_cell BK141.out 0).trans rfl
           have hcz14_1 : wr.cell? ⟨gb141, 1, none⟩ = some (.string (⟨#[]⟩ : ByteArray)) := (blk_cell BK141.out 1).trans rfl
           have hfz14_0 := blk_frozen BK141.out 0
           have hfz14_1 := blk_frozen BK141.out 1
           go_wp2
           refine bodyPost_ret (results_cell_row rfl _ _ gb141 25 #[.bool (x141001_1.toList != ([] : List UInt8)), .string x141001_1] (0, 0) _ rfl (by (with_reducible repeat (first | refine blk_drewN ?_ _ | refine blk_drew ?_ | refine blk_alloc ?_ _)); refine blk_put (cs := #[.bool (x141001_1.toList != ([] : List UInt8)), .string (⟨#[]⟩ : ByteArray)]) ?_ 1 _ (by first | rfl | simp [bne_nil_]); (with_reducible repeat (first | refine blk_drewN ?_ _ | refine blk_drew ?_ | refine blk_alloc ?_ _)); refine blk_put (cs := #[.bool false, .string (⟨#[]⟩ : ByteArray)]) ?_ 0 _ (by first | rfl | simp [bne_nil_]); (with_reducible repeat (first | refine blk_drewN ?_ _ | refine blk_drew ?_ | refine blk_alloc ?_ _)); refine blk_far ?_ NB141_140.out _; (with_reducible repeat (first | refine blk_drewN ?_ _ | refine blk_drew ?_ | refine blk_alloc ?_ _)); exact BK141.out) Tryd.underlying25 rfl (by kernel_rfl)) rfl ?_
           exact ⟨by first | rfl | (simp [errW_none, errW_some] <;> rfl) | (simp [*, errW_none, errW_some] <;> rfl) | (simp [bne_nil_]; done), by repeat (first | (with_reducible first | exact HB.out | apply below_alloc | apply pw_below_drewN | apply below_drew1 | refine below_set ?_ GE140.out | refine below_set ?_ GE141.out) | exact HB.out)⟩
         · replace c11 := Bool.eq_false_iff.mpr c11
           subst c11
           have H1 : (some (false, x141001_1)) = some (r1, r2) := by rw [if_neg (show ¬ (false = true) by decide)] at H; exact H
           clear H
           have H := H1
           clear H1
           simp only [Option.some.injEq, Prod.mk.injEq] at H
           obtain ⟨rfl, rfl⟩ := H
           have hnb15 := NB140_141.out
           have hnc15 := NB141_140.out
           have hcz16_0 : wr.cell? ⟨gb140, 0, none⟩ = some (.bool false) := (blk_cell BK140.out 0).trans rfl
           have hcz16_1 : wr.cell? ⟨gb140, 1, none⟩ = some (.string x141001_1) := (blk_cell BK140.out 1).trans rfl
           have hfz16_0 := blk_frozen BK140.out 0
           have hfz16_1 := blk_frozen BK140.out 1
           have p6 : 0 ≤ (0 : Int) := (by omega)
           have q6 : 0 < x141001_1.size := (by have : (0 : Int) < (x141001_1.size : Int) := of_decide_eq_true (by first | (with_reducible assumption) | assumption); omega)
           have hx6 : ∀ h : 0 < x141001_1.size, ((x141001_1[0]'h).toNat : Int) = bt x141001_1 0 := bt_at x141001_1 0
           clear p6
           have qi6 : (0 < (x141001_1.size : Int)) = True := eq_true (of_decide_eq_true (by first | (with_reducible assumption) | assumption))
           replace q6 := eq_true q6
           have hcz17_0 : wr.cell? ⟨gb141, 0, none⟩ = some (.bool false) := (blk_cell BK141.out 0).trans rfl
           have hcz17_1 : wr.cell? ⟨gb141, 1, none⟩ = some (.string (⟨#[]⟩ : ByteArray)) := (blk_cell BK141.out 1).trans rfl
           have hfz17_0 := blk_frozen BK141.out 0
           have hfz17_1 := blk_frozen BK141.out 1
           go_wp2
           refine bodyPost_ret (results_cell_row rfl _ _ gb141 25 #[.bool false, .string x141001_1] (0, 0) _ rfl (by (with_reducible repeat (first | refine blk_drewN ?_ _ | refine blk_drew ?_ | refine blk_alloc ?_ _)); refine blk_put (cs := #[.bool false, .string (⟨#[]⟩ : ByteArray)]) ?_ 1 _ rfl; (with_reducible repeat (first | refine blk_drewN ?_ _ | refine blk_drew ?_ | refine blk_alloc ?_ _)); refine blk_put (cs := #[.bool false, .string (⟨#[]⟩ : ByteArray)]) ?_ 0 _ rfl; (with_reducible repeat (first | refine blk_drewN ?_ _ | refine blk_drew ?_ | refine blk_alloc ?_ _)); refine blk_far ?_ NB141_140.out _; (with_reducible repeat (first | refine blk_drewN ?_ _ | refine blk_drew ?_ | refine blk_alloc ?_ _)); exact BK141.out) Tryd.underlying25 rfl (by kernel_rfl)) rfl ?_
           exact ⟨by first | rfl | (simp [errW_none, errW_some] <;> rfl) | (simp [*, errW_none, errW_some] <;> rfl) | (simp [bne_nil_]; done), by repeat (first | (with_reducible first | exact HB.out | apply below_alloc | apply pw_below_drewN | apply below_drew1 | refine below_set ?_ GE140.out | refine below_set ?_ GE141.out) | exact HB.out)⟩
     · rw [if_neg c5] at H
       exact absurd H (by simp)
   · rw [if_neg c4] at H
     have c4b0 : decide (0 < (x141001_1.size : Int)) = false := decide_eq_false c4
     have c4b1 : decide (0 < x141001_1.size) = false := decide_eq_false (by omega)
     clear c4
     by_cases c18 : a0_0 = true
     · subst c18
       have H1 : (some ((x141001_1.toList != ([] : List UInt8)), x141001_1)) = some (r1, r2) := by rw [if_pos rfl] at H; exact H
       clear H
       have H := H1
       clear H1
       simp only [Option.some.injEq, Prod.mk.injEq] at H
       obtain ⟨rfl, rfl⟩ := H
       have hnb19 := NB140_141.out
       have hnc19 := NB141_140.out
       have hcz20_0 : wr.cell? ⟨gb140, 0, none⟩ = some (.bool true) := (blk_cell BK140.out 0).trans rfl
       have hcz20_1 : wr.cell? ⟨gb140, 1, none⟩ = some (.string x141001_1) := (blk_cell BK140.out 1).trans rfl
       have hfz20_0 := blk_frozen BK140.out 0
       have hfz20_1 := blk_frozen BK140.out 1
       have hcz21_0 : wr.cell? ⟨gb141, 0, none⟩ = some (.bool false) := (blk_cell BK141.out 0).trans rfl
       have hcz21_1 : wr.cell? ⟨gb141, 1, none⟩ = some (.string (⟨#[]⟩ : ByteArray)) := (blk_cell BK141.out 1).trans rfl
       have hfz21_0 := blk_frozen BK141.out 0
       have hfz21_1 := blk_frozen BK141.out 1
       go_wp2
       refine bodyPost_ret (results_cell_row rfl _ _ gb141 25 #[.bool (x141001_1.toList != ([] : List UInt8)), .string x141001_1] (0, 0) _ rfl (by (with_reducible repeat (first | refine blk_drewN ?_ _ | refine blk_drew ?_ | refine blk_alloc ?_ _)); refine blk_put (cs := #[.bool (x141001_1.toList != ([] : List UInt8)), .string (⟨#[]⟩ : ByteArray)]) ?_ 1 _ (by first | rfl | simp [bne_nil_]); (with_reducible repeat (first | refine blk_drewN ?_ _ | refine blk_drew ?_ | refine blk_alloc ?_ _)); refine blk_put (cs := #[.bool false, .string (⟨#[]⟩ : ByteArray)]) ?_ 0 _ (by first | rfl | simp [bne_nil_]); (with_reducible repeat (first | refine blk_drewN ?_ _ | refine blk_drew ?_ | refine blk_alloc ?_ _)); refine blk_far ?_ NB141_140.out _; (with_reducible repeat (first | refine blk_drewN ?_ _ | refine blk_drew ?_ | refine blk_alloc ?_ _)); exact BK141.out) Tryd.underlying25 rfl (by kernel_rfl)) rfl ?_
       exact ⟨by first | rfl | (simp [errW_none, errW_some] <;> rfl) | (simp [*, errW_none, errW_some] <;> rfl) | (simp [bne_nil_]; done), by repeat (first | (with_reducible first | exact HB.out | apply below_alloc | apply pw_below_drewN | apply below_drew1 | refine below_set ?_ GE140.out | refine below_set ?_ GE141.out) | exact HB.out)⟩
     · replace c18 := Bool.eq_false_iff.mpr c18
       subst c18
       have H1 : (some (false, x141001_1)) = some (r1, r2) := by rw [if_neg (show ¬ (false = true) by decide)] at H; exact H
       clear H
       have H := H1
       clear H1
       simp only [Option.some.injEq, Prod.mk.injEq] at H
       obtain ⟨rfl, rfl⟩ := H
       have hnb22 := NB140_141.out
       have hnc22 := NB141_140.out
       have hcz23_0 : wr.cell? ⟨gb140, 0, none⟩ = some (.bool false) := (blk_cell BK140.out 0).trans rfl
       have hcz23_1 : wr.cell? ⟨gb140, 1, none⟩ = some (.string x141001_1) := (blk_cell BK140.out 1).trans rfl
       have hfz23_0 := blk_frozen BK140.out 0
       have hfz23_1 := blk_frozen BK140.out 1
       have hcz24_0 : wr.cell? ⟨gb141, 0, none⟩ = some (.bool false) := (blk_cell BK141.out 0).trans rfl
       have hcz24_1 : wr.cell? ⟨gb141, 1, none⟩ = some (.string (⟨#[]⟩ : ByteArray)) := (blk_cell BK141.out 1).trans rfl
       have hfz24_0 := blk_frozen BK141.out 0
       have hfz24_1 := blk_frozen BK141.out 1
       go_wp2
       refine bodyPost_ret (results_cell_row rfl _ _ gb141 25 #[.bool false, .string x141001_1] (0, 0) _ rfl (by (with_reducible repeat (first | refine blk_drewN ?_ _ | refine blk_drew ?_ | refine blk_alloc ?_ _)); refine blk_put (cs := #[.bool false, .string (⟨#[]⟩ : ByteArray)]) ?_ 1 _ rfl; (with_reducible repeat (first | refine blk_drewN ?_ _ | refine blk_drew ?_ | refine blk_alloc ?_ _)); refine blk_put (cs := #[.bool false, .string (⟨#[]⟩ : ByteArray)]) ?_ 0 _ rfl; (with_reducible repeat (first | refine blk_drewN ?_ _ | refine blk_drew ?_ | refine blk_alloc ?_ _)); refine blk_far ?_ NB141_140.out _; (with_reducible repeat (first | refine blk_drewN ?_ _ | refine blk_drew ?_ | refine blk_alloc ?_ _)); exact BK141.out) Tryd.underlying25 rfl (by kernel_rfl)) rfl ?_
       exact ⟨by first | rfl | (simp [errW_none, errW_some] <;> rfl) | (simp [*, errW_none, errW_some] <;> rfl) | (simp [bne_nil_]; done), by repeat (first | (with_reducible first | exact HB.out | apply below_alloc | apply pw_below_drewN | apply below_drew1 | refine below_set ?_ GE140.out | refine below_set ?_ GE141.out) | exact HB.out)⟩

/-! ### spec_orderInts: function 37 -/
def spec_orderInts.f (a0 : Int) (a1 : Int) : Option (Int) := if a0 < a1 then (some (-1)) else (if a0 > a1 then (some 1) else (some 0))
set_option maxHeartbeats 8000000 in
set_option maxRecDepth 100000 in
theorem spec_orderInts.calls (a0 : Int) (a1 : Int) (r : Int) (w : World) (h : spec_orderInts.f a0 a1 = some r) :
 Calls Tryd.prog 37 #[.int .i64 a0, .int .i64 a1] w fun e w' => e = .returned (.int .i64 r) ∧ Drawn0 w w' := by
 have H : (if a0 < a1 then (some (-1)) else (if a0 > a1 then (some 1) else (some 0))) = some r := h
 clear h
 by_cases c3 : a0 < a1
 · rw [if_pos c3] at H
   have c3b0 : decide (a0 < a1) = true := decide_eq_true c3
   clear c3
   obtain rfl := Option.some.inj H
   go_enter Tryd.func37, Tryd.ntmps37
   go_wp2
   go_ret
   exact ⟨by first | rfl | (simp; done) | (simp [*]; done) | (simp [bne_nil_]; done), by repeat (first | exact Drawn0.refl _ | apply Drawn0.step)⟩
 · rw [if_neg c3] at H
   have c3b0 : decide (a0 < a1) = false := decide_eq_false c3
   clear c3
   by_cases c4 : a0 > a1
   · rw [if_pos c4] at H
     have c4b0 : decide (a1 < a0) = true := decide_eq_true c4
     clear c4
     obtain rfl := Option.some.inj H
     go_enter Tryd.func37, Tryd.ntmps37
     go_wp2
     go_ret
     exact ⟨by first | rfl | (simp; done) | (simp [*]; done) | (simp [bne_nil_]; done), by repeat (first | exact Drawn0.refl _ | apply Drawn0.step)⟩
   · rw [if_neg c4] at H
     have c4b0 : decide (a1 < a0) = false := decide_eq_false c4
     clear c4
     obtain rfl := Option.some.inj H
     go_enter Tryd.func37, Tryd.ntmps37
     go_wp2
     go_ret
     exact ⟨by first | rfl | (simp; done) | (simp [*]; done) | (simp [bne_nil_]; done), by repeat (first | exact Drawn0.refl _ | apply Drawn0.step)⟩

-- GIVEN: function 38 (spec_order)

/-! ### spec_intOrder: function 24 -/
mutual
def spec_intOrder.j2 : Nat → Bool → ByteArray → Bool → ByteArray → Option (Int)
 | 0, _, _, _, _ => none
 | k + 1, x143000, x143001, x144000, x144001 => if (x143001.size : Int) = (x144001.size : Int) then ((Giv.spec_order.f x143001 x144001).bind fun t148 => (some t148)) else ((spec_orderInts.f (x143001.size : Int) (x144001.size : Int)).bind fun t149 => (some t149))
def spec_intOrder.j0 : Nat → Bool → Bool → ByteArray → Bool → ByteArray → Option (Int)
 | 0, _, _, _, _, _ => none
 | k + 1, x9, x143000, x143001, x144000, x144001 => if x9 = true then (some (-1)) else (if x143000 = true then (spec_intOrder.j1 k false x143000 x143001 x144000 x144001) else (spec_intOrder.j1 k x144000 x143000 x143001 x144000 x144001))
def spec_intOrder.j1 : Nat → Bool → Bool → ByteArray → Bool → ByteArray → Option (Int)
 | 0, _, _, _, _, _ => none
 | k + 1, x17, x143000, x143001, x144000, x144001 => if x17 = true then (some 1) else (if x143000 = true then (spec_intOrder.j2 k x144000 x144001 x143000 x143001) else (spec_intOrder.j2 k x143000 x143001 x144000 x144001))
end
def spec_intOrder.f (k : Nat) (a0_0 : Bool) (a0_1 : ByteArray) (a1_0 : Bool) (a1_1 : ByteArray) : Option (Int) := (spec_numTidy.f k a0_0 a0_1).bind fun bt144 => ((spec_numTidy.f k a1_0 a1_1).bind fun bt146 => (if bt144.1 = true then (spec_intOrder.j0 k (!bt146.1) bt144.1 bt144.2 bt146.1 bt146.2) else (spec_intOrder.j0 k false bt144.1 bt144.2 bt146.1 bt146.2)))
theorem spec_intOrder.mono_l : ∀ k, (∀ y0 y1 y2 y3, LeO (spec_intOrder.j2 k y0 y1 y2 y3) (spec_intOrder.j2 (k + 1) y0 y1 y2 y3)) ∧ (∀ y0 y1 y2 y3 y4, LeO (spec_intOrder.j0 k y0 y1 y2 y3 y4) (spec_intOrder.j0 (k + 1) y0 y1 y2 y3 y4)) ∧ (∀ y0 y1 y2 y3 y4, LeO (spec_intOrder.j1 k y0 y1 y2 y3 y4) (spec_intOrder.j1 (k + 1) y0 y1 y2 y3 y4))
 | 0 => ⟨fun _ _ _ _ r h => by simp [spec_intOrder.j2] at h, fun _ _ _ _ _ r h => by simp [spec_intOrder.j0] at h, fun _ _ _ _ _ r h => by simp [spec_intOrder.j1] at h⟩
 | k + 1 => by
  obtain ⟨ih0, ih1, ih2⟩ := spec_intOrder.mono_l k
  refine ⟨?_, ?_, ?_⟩
  · intro y0 y1 y2 y3
    unfold spec_intOrder.j2
    repeat' first
    | (with_reducible exact ih0 _ _ _ _)
    | (with_reducible exact ih1 _ _ _ _ _)
    | (with_reducible exact ih2 _ _ _ _ _)
    | (with_reducible exact spec_numTidy.mono _ _ _)
    | (with_reducible exact LeO.refl _)
    | (with_reducible exact LeO.none _)
    | (with_reducible refine LeO.ite ?_ ?_)
    | (with_reducible refine LeO.bind ?_ (fun _ => ?_))
    | exact ih0 _ _ _ _
    | exact ih1 _ _ _ _ _
    | exact ih2 _ _ _ _ _
    | exact spec_numTidy.mono _ _ _
    | exact LeO.none _
    | refine LeO.ite ?_ ?_
    | refine LeO.bind ?_ (fun _ => ?_)
  · intro y0 y1 y2 y3 y4
    unfold spec_intOrder.j0
    repeat' first
    | (with_reducible exact ih0 _ _ _ _)
    | (with_reducible exact ih1 _ _ _ _ _)
    | (with_reducible exact ih2 _ _ _ _ _)
    | (with_reducible exact spec_numTidy.mono _ _ _)
    | (with_reducible exact LeO.refl _)
    | (with_reducible exact LeO.none _)
    | (with_reducible refine LeO.ite ?_ ?_)
    | (with_reducible refine LeO.bind ?_ (fun _ => ?_))
    | exact ih0 _ _ _ _
    | exact ih1 _ _ _ _ _
    | exact ih2 _ _ _ _ _
    | exact spec_numTidy.mono _ _ _
    | exact LeO.none _
    | refine LeO.ite ?_ ?_
    | refine LeO.bind ?_ (fun _ => ?_)
  · intro y0 y1 y2 y3 y4
    unfold spec_intOrder.j1
    repeat' first
    | (with_reducible exact ih0 _ _ _ _)
    | (with_reducible exact ih1 _ _ _ _ _)
    | (with_reducible exact ih2 _ _ _ _ _)
    | (with_reducible exact spec_numTidy.mono _ _ _)
    | (with_reducible exact LeO.refl _)
    | (with_reducible exact LeO.none _)
    | (with_reducible refine LeO.ite ?_ ?_)
    | (with_reducible refine LeO.bind ?_ (fun _ => ?_))
    | exact ih0 _ _ _ _
    | exact ih1 _ _ _ _ _
    | exact ih2 _ _ _ _ _
    | exact spec_numTidy.mono _ _ _
    | exact LeO.none _
    | refine LeO.ite ?_ ?_
    | refine LeO.bind ?_ (fun _ => ?_)
theorem spec_intOrder.mono : ∀ a0 a1 a2 a3 k, LeO (spec_intOrder.f k a0 a1 a2 a3) (spec_intOrder.f (k + 1) a0 a1 a2 a3) := by
 intro a0 a1 a2 a3 k
 obtain ⟨ih0, ih1, ih2⟩ := spec_intOrder.mono_l k
 unfold spec_intOrder.f
 repeat' first
  | (with_reducible exact ih0 _ _ _ _)
  | (with_reducible exact ih1 _ _ _ _ _)
  | (with_reducible exact ih2 _ _ _ _ _)
  | (with_reducible exact spec_numTidy.mono _ _ _)
  | (with_reducible exact LeO.refl _)
  | (with_reducible exact LeO.none _)
  | (with_reducible refine LeO.ite ?_ ?_)
  | (with_reducible refine LeO.bind ?_ (fun _ => ?_))
  | exact ih0 _ _ _ _
  | exact ih1 _ _ _ _ _
  | exact ih2 _ _ _ _ _
  | exact spec_numTidy.mono _ _ _
  | exact LeO.none _
  | refine LeO.ite ?_ ?_
  | refine LeO.bind ?_ (fun _ => ?_)
set_option maxHeartbeats 8000000 in
set_option maxRecDepth 100000 in
theorem spec_intOrder.calls (k : Nat) (a0_0 : Bool) (a0_1 : ByteArray) (a1_0 : Bool) (a1_1 : ByteArray) (r : Int) (w : World) (h : spec_intOrder.f k a0_0 a0_1 a1_0 a1_1 = some r) :
 Calls Tryd.prog 24 #[.agg #[.bool a0_0, .string a0_1], .agg #[.bool a1_0, .string a1_1]] w fun e w' => e = .returned (.int .i64 r) ∧ Below w.heap.size w w' := by
 have hu25 := Tryd.underlying25
 have HB := Aside0.mk (Below.refl w.heap.size w)
 have H : ((spec_numTidy.f k a0_0 a0_1).bind fun bt144 => ((spec_numTidy.f k a1_0 a1_1).bind fun bt146 => (if bt144.1 = true then (spec_intOrder.j0 k (!bt146.1) bt144.1 bt144.2 bt146.1 bt146.2) else (spec_intOrder.j0 k false bt144.1 bt144.2 bt146.1 bt146.2)))) = some r := h
 clear h
 replace H := Option.bind_eq_some_iff.mp H
 obtain ⟨⟨t144, t145⟩, A30, H⟩ := H
 replace H : ((spec_numTidy.f k a1_0 a1_1).bind fun bt146 => (if t144 = true then (spec_intOrder.j0 k (!bt146.1) t144 t145 bt146.1 bt146.2) else (spec_intOrder.j0 k false t144 t145 bt146.1 bt146.2))) = some r := H
 have A3 := Aside0.mk A30
 clear A30
 replace H := Option.bind_eq_some_iff.mp H
 obtain ⟨⟨t146, t147⟩, A40, H⟩ := H
 replace H : (if t144 = true then (spec_intOrder.j0 k (!t146) t144 t145 t146 t147) else (spec_intOrder.j0 k false t144 t145 t146 t147)) = some r := H
 have A4 := Aside0.mk A40
 clear A40
 have HC5 := Aside0.mk H
 clear H
 go_enter Tryd.func24, Tryd.ntmps24
 try go_wp2_with (first | ((with_reducible refine gate_dst (N := 2) rfl ?_); refine box_event ?hg (N := 2) ?hd (cs := #[.bool a0_0, .string a0_1]) (t := 25) ?hr ?_; (case hd => rfl); (case hg => rfl); (case hr => first | (go_simp; done) | (go_simp; rfl)); intro gb142 hg w6 hbox hb; have n0_ := Aside0.mk (below_step (by repeat (first | (with_reducible first | exact HB.out | apply below_alloc | apply pw_below_drewN | apply below_drew1) | exact HB.out)) hb); have n1_ := Aside0.mk (hbox); have n2_ := Aside0.mk ((by rw [hg]; exact (below_size (by repeat (first | (with_reducible first | exact HB.out | apply below_alloc | apply pw_below_drewN | apply below_drew1) | exact HB.out))) : w.heap.size ≤ gb142)); have n3_ := Aside0.mk ((by rw [hg]; exact (below_size (by repeat (first | (with_reducible first | exact HB.out | apply below_alloc | apply pw_below_drewN | apply below_drew1) | exact HB.out))) : w.heap.size ≤ gb142)); clear HB; have HB := n0_; have BK142 := n1_; have GW142 := n2_; have GE142 := n3_; clear n0_ n1_ n2_ n3_; clear hb hbox hg) | ((with_reducible refine gate_dst (N := 3) rfl ?_); refine box_event ?hg (N := 3) ?hd (cs := #[.bool a1_0, .string a1_1]) (t := 25) ?hr ?_; (case hd => rfl); (case hg => rfl); (case hr => first | (go_simp; done) | (go_simp; rfl)); intro gb143 hg w7 hbox hb; have n0_ := Aside0.mk (blk_below (g := gb142) (o := .cells #[.bool a0_0, .string a0_1] 25 (0, 0)) (by (with_reducible repeat (first | refine blk_drewN ?_ _ | refine blk_drew ?_ | refine blk_alloc ?_ _)); exact BK142.out) hb); have n1_ := Aside0.mk (below_step (by repeat (first | (with_reducible first | exact HB.out | apply below_alloc | apply pw_below_drewN | apply below_drew1 | refine below_set ?_ GE142.out) | exact HB.out)) hb); have n2_ := Aside0.mk (hbox); have n3_ := Aside0.mk ((by rw [hg]; exact (below_size (by repeat (first | (with_reducible first | exact HB.out | apply below_alloc | apply pw_below_drewN | apply below_drew1 | refine below_set ?_ GE142.out) | exact HB.out))) : w.heap.size ≤ gb143)); have n4_ := Aside0.mk ((by rw [hg]; exact (below_size (by repeat (first | (with_reducible first | exact HB.out | apply below_alloc | apply pw_below_drewN | apply below_drew1 | refine below_set ?_ GE142.out) | exact HB.out))) : w.heap.size ≤ gb143)); have n5_ := Aside0.mk ((by rw [hg]; exact Nat.ne_of_lt (blk_lt (g := gb142) (o := .cells #[.bool a0_0, .string a0_1] 25 (0, 0)) (by (with_reducible repeat (first | refine blk_drewN ?_ _ | refine blk_drew ?_ | refine blk_alloc ?_ _)); exact BK142.out)) : gb142 ≠ gb143)); have n6_ := Aside0.mk ((by rw [hg]; exact Nat.ne_of_gt (blk_lt (g := gb142) (o := .cells #[.bool a0_0, .string a0_1] 25 (0, 0)) (by (with_reducible repeat (first | refine blk_drewN ?_ _ | refine blk_drew ?_ | refine blk_alloc ?_ _)); exact BK142.out)) : gb143 ≠ gb142)); clear BK142; clear HB; have BK142 := n0_; have HB := n1_; have BK143 := n2_; have GW143 := n3_; have GE143 := n4_; have NB142_143 := n5_; have NB143_142 := n6_; clear n0_ n1_ n2_ n3_ n4_ n5_ n6_; clear hb hbox hg))
 have n0_ := Aside0.mk (blk_drew BK142.out)
 have n1_ := Aside0.mk (blk_drew BK143.out)
 have n2_ := Aside0.mk (below_drew1 HB.out)
 clear BK142
 clear BK143
 clear HB
 have BK142 := n0_
 have BK143 := n1_
 have HB := n2_
 clear n0_ n1_ n2_
 refine start_ (n := 6) (S := fun w' => w'.cell? ⟨gb142, 0, none⟩ = some (.bool a0_0) ∧ w'.cell? ⟨gb142, 1, none⟩ = some (.string a0_1) ∧ w'.cell? ⟨gb143, 0, none⟩ = some (.bool a1_0) ∧ w'.cell? ⟨gb143, 1, none⟩ = some (.string a1_1)) (ds := [4, 5]) #[false, false, false, false, false, false] (by kernel_rfl) rfl rfl ⟨(blk_cell BK142.out 0).trans rfl, (blk_cell BK142.out 1).trans rfl, (blk_cell BK143.out 0).trans rfl, (blk_cell BK143.out 1).trans rfl⟩ (fun hHeld => ?_)
 generalize w7.drew = w8 at BK142 BK143 HB hHeld ⊢
 refine take_ (i := 0) (N := some 5) (v := ?_) (a' := ?_) #[true, false, false, false, false, false] rfl rfl (by kernel_rfl) (fun _ _ _ h => h) (Or.inl ⟨by rfl, ?_⟩) hHeld ?_ ?_
 rotate_left
 · rintro w' ⟨s0, s1, s2, s3⟩
   go_simp
   with_reducible rfl
 rotate_left
 · simp only [Act.put, List.setIfInBounds_toArray, List.set_cons_zero, List.set_cons_succ, i64_w, i32_w]
   rfl
 refine take_ (i := 2) (N := some 7) (v := ?_) (a' := ?_) #[true, false, true, false, false, false] rfl rfl (by kernel_rfl) (fun _ _ _ h => h) (Or.inl ⟨by rfl, ?_⟩) hHeld ?_ ?_
 rotate_left
 · rintro w' ⟨s0, s1, s2, s3⟩
   go_simp
   with_reducible rfl
 rotate_left
 · simp only [Act.put, List.setIfInBounds_toArray, List.set_cons_zero, List.set_cons_succ, i64_w, i32_w]
   rfl
 refine one_ (i := 1) (N := some 6) #[true, true, true, false, false, false] rfl rfl (by kernel_rfl) (by decide) (fun K hK => ?_)
 refine goes_ Tryd.func36 (by kernel_rfl) rfl #[.agg #[.bool a0_0, .string a0_1]] (by rfl) rfl rfl (by (try simp only [List.map_toArray, List.map_cons, List.map_nil]); first | done | rfl | (simp only [List.length_drop, List.length_take]; rfl)) ?_
 with_reducible refine (spec_numTidy.calls k a0_0 a0_1 t144 t145 _ A3.out).mono ?_
 rintro e w9 ⟨rfl, hb⟩
 refine ⟨_, rfl, ?_⟩
 have n0_ := Aside0.mk (blk_below (g := gb142) (o := .cells #[.bool a0_0, .string a0_1] 25 (0, 0)) (by (with_reducible repeat (first | refine blk_drewN ?_ _ | refine blk_drew ?_ | refine blk_alloc ?_ _)); exact BK142.out) hb)
 have n1_ := Aside0.mk (blk_below (g := gb143) (o := .cells #[.bool a1_0, .string a1_1] 25 (0, 0)) (by (with_reducible repeat (first | refine blk_drewN ?_ _ | refine blk_drew ?_ | refine blk_alloc ?_ _)); exact BK143.out) hb)
 have n2_ := Aside0.mk (below_step (by repeat (first | (with_reducible first | exact HB.out | apply below_alloc | apply pw_below_drewN | apply below_drew1 | refine below_set ?_ GE142.out | refine below_set ?_ GE143.out) | exact HB.out)) hb)
 clear BK142
 clear BK143
 clear HB
 have BK142 := n0_
 have BK143 := n1_
 have HB := n2_
 clear n0_ n1_ n2_
 (try clear hb)
 (try clear hb2)
 (try clear hk)
 (try clear hi)
 refine hK.out _ _ ⟨(blk_cell BK142.out 0).trans rfl, (blk_cell BK142.out 1).trans rfl, (blk_cell BK143.out 0).trans rfl, (blk_cell BK143.out 1).trans rfl⟩ (fun hHeld => ?_)
 clear hK K
 refine norm_ (a' := ?_) ?_ ?_
 rotate_left
 · show Act.put _ (some 6) _ = _
   simp only [Act.put, List.setIfInBounds_toArray, List.set_cons_zero, List.set_cons_succ, i64_w, i32_w]
   rfl
 refine one_ (i := 3) (N := some 8) #[true, true, true, true, false, false] rfl rfl (by kernel_rfl) (by decide) (fun K hK => ?_)
 refine goes_ Tryd.func36 (by kernel_rfl) rfl #[.agg #[.bool a1_0, .string a1_1]] (by rfl) rfl rfl (by (try simp only [List.map_toArray, List.map_cons, List.map_nil]); first | done | rfl | (simp only [List.length_drop, List.length_take]; rfl)) ?_
 with_reducible refine (spec_numTidy.calls k a1_0 a1_1 t146 t147 _ A4.out).mono ?_
 rintro e w10 ⟨rfl, hb⟩
 refine ⟨_, rfl, ?_⟩
 have n0_ := Aside0.mk (blk_below (g := gb142) (o := .cells #[.bool a0_0, .string a0_1] 25 (0, 0)) (by (with_reducible repeat (first | refine blk_drewN ?_ _ | refine blk_drew ?_ | refine blk_alloc ?_ _)); exact BK142.out) hb)
 have n1_ := Aside0.mk (blk_below (g := gb143) (o := .cells #[.bool a1_0, .string a1_1] 25 (0, 0)) (by (with_reducible repeat (first | refine blk_drewN ?_ _ | refine blk_drew ?_ | refine blk_alloc ?_ _)); exact BK143.out) hb)
 have n2_ := Aside0.mk (below_step (by repeat (first | (with_reducible first | exact HB.out | apply below_alloc | apply pw_below_drewN | apply below_drew1 | refine below_set ?_ GE142.out | refine below_set ?_ GE143.out) | exact HB.out)) hb)
 clear BK142
 clear BK143
 clear HB
 have BK142 := n0_
 have BK143 := n1_
 have HB := n2_
 clear n0_ n1_ n2_
 (try clear hb)
 (try clear hb2)
 (try clear hk)
 (try clear hi)
 refine hK.out _ _ ⟨(blk_cell BK142.out 0).trans rfl, (blk_cell BK142.out 1).trans rfl, (blk_cell BK143.out 0).trans rfl, (blk_cell BK143.out 1).trans rfl⟩ (fun hHeld => ?_)
 clear hK K
 refine norm_ (a' := ?_) ?_ ?_
 rotate_left
 · show Act.put _ (some 8) _ = _
   simp only [Act.put, List.setIfInBounds_toArray, List.set_cons_zero, List.set_cons_succ, i64_w, i32_w]
   rfl
 refine last_ (i := 4) (N := none) #[true, true, true, true, true, false] rfl rfl (by kernel_rfl) (by decide) (fun K hK => ?_)
 have hs11 : w10.cell? ⟨gb142, 0, none⟩ = some (.bool a0_0) := (blk_cell BK142.out 0).trans rfl
 have hfs11 := blk_frozen BK142.out 0
 have hns11_1 := NB143_142.out
 have hms11_1 := NB142_143.out
 have hs12 : w10.cell? ⟨gb142, 1, none⟩ = some (.string a0_1) := (blk_cell BK142.out 1).trans rfl
 have hfs12 := blk_frozen BK142.out 1
 have hns12_1 := NB143_142.out
 have hms12_1 := NB142_143.out
 refine skip_ (w1 := ?_) (by rfl) rfl ?_ ?_
 rotate_left
 · go_simp
   rfl
 refine hK.out _ _ ?_
 clear hK K
 refine last_ (i := 5) (N := none) #[true, true, true, true, true, true] rfl rfl (by kernel_rfl) (by decide) (fun K hK => ?_)
 have hs13 : w10.cell? ⟨gb143, 0, none⟩ = some (.bool a1_0) := (blk_cell BK143.out 0).trans rfl
 have hfs13 := blk_frozen BK143.out 0
 have hns13_0 := NB142_143.out
 have hms13_0 := NB143_142.out
 have hs14 : w10.cell? ⟨gb143, 1, none⟩ = some (.string a1_1) := (blk_cell BK143.out 1).trans rfl
 have hfs14 := blk_frozen BK143.out 1
 have hns14_0 := NB142_143.out
 have hms14_0 := NB143_142.out
 refine skip_ (w1 := ?_) (by rfl) rfl ?_ ?_
 rotate_left
 · go_simp
   rfl
 refine hK.out _ _ ?_
 clear hK K
 refine done_ (by kernel_rfl) ?_
 go_upto_block 0 with (fail)
 go_cut [] (fun wc => ∃ (kq : Nat) (x143000_4 : Bool) (x143001_4 : ByteArray) (x144000_4 : Bool) (x144001_4 : ByteArray), Aside0 (spec_intOrder.j2 kq x143000_4 x143001_4 x144000_4 x144001_4 = some r) ∧ Aside0 (kq ≤ k) ∧ Aside0 (wc.heap[gb142]? = some (.cells #[.bool x143000_4, .string x143001_4] 25 (0, 0))) ∧ Aside0 (wc.heap[gb143]? = some (.cells #[.bool x144000_4, .string x144001_4] 25 (0, 0))) ∧ Aside0 (Below w.heap.size w wc))
 case first =>
  have H := HC5.out
  clear HC5
  have HC15 := Aside0.mk H
  clear H
  go_upto_region 2 with (fail)
  go_cut [9] (fun v9 wc => ∃ (kq : Nat) (x9_14 : Bool), v9 = .bool x9_14 ∧ Aside0 (spec_intOrder.j0 kq x9_14 t144 t145 t146 t147 = some r) ∧ Aside0 (kq ≤ k) ∧ Aside0 (wc.heap[gb142]? = some (.cells #[.bool t144, .string t145] 25 (0, 0))) ∧ Aside0 (wc.heap[gb143]? = some (.cells #[.bool t146, .string t147] 25 (0, 0))) ∧ Aside0 (Below w.heap.size w wc))
  case first =>
   have H := HC15.out
   clear HC15
   by_cases c16 : t144 = true
   · subst c16
     have H1 : (spec_intOrder.j0 k (!t146) true t145 t146 t147) = some r := by rw [if_pos rfl] at H; exact H
     clear H
     have H := H1
     clear H1
     have H' := Aside0.mk H
     clear H
     have hnb17 := NB142_143.out
     have hnc17 := NB143_142.out
     have hcz18_0 : w10.cell? ⟨gb142, 0, none⟩ = some (.bool a0_0) := (blk_cell BK142.out 0).trans rfl
     have hcz18_1 : w10.cell? ⟨gb142, 1, none⟩ = some (.string a0_1) := (blk_cell BK142.out 1).trans rfl
     have hfz18_0 := blk_frozen BK142.out 0
     have hfz18_1 := blk_frozen BK142.out 1
     have hcz19_0 : w10.cell? ⟨gb143, 0, none⟩ = some (.bool a1_0) := (blk_cell BK143.out 0).trans rfl
     have hcz19_1 : w10.cell? ⟨gb143, 1, none⟩ = some (.string a1_1) := (blk_cell BK143.out 1).trans rfl
     have hfz19_0 := blk_frozen BK143.out 0
     have hfz19_1 := blk_frozen BK143.out 1
     go_wp2
     go_meet
     case rel => exact ⟨_, (!t146), (by first | rfl | (simp; done) | (simp [*]; done) | (simp [bne_nil_]; done)), H', ⟨by first | omega | exact Nat.le_refl _⟩, ⟨by (with_reducible repeat (first | refine blk_drewN ?_ _ | refine blk_drew ?_ | refine blk_alloc ?_ _)); refine blk_far ?_ NB142_143.out _; (with_reducible repeat (first | refine blk_drewN ?_ _ | refine blk_drew ?_ | refine blk_alloc ?_ _)); refine blk_far ?_ NB142_143.out _; (with_reducible repeat (first | refine blk_drewN ?_ _ | refine blk_drew ?_ | refine blk_alloc ?_ _)); refine blk_put (cs := #[.bool true, .string a0_1]) ?_ 1 _ rfl; (with_reducible repeat (first | refine blk_drewN ?_ _ | refine blk_drew ?_ | refine blk_alloc ?_ _)); refine blk_put (cs := #[.bool a0_0, .string a0_1]) ?_ 0 _ rfl; (with_reducible repeat (first | refine blk_drewN ?_ _ | refine blk_drew ?_ | refine blk_alloc ?_ _)); exact BK142.out⟩, ⟨by (with_reducible repeat (first | refine blk_drewN ?_ _ | refine blk_drew ?_ | refine blk_alloc ?_ _)); refine blk_put (cs := #[.bool t146, .string a1_1]) ?_ 1 _ rfl; (with_reducible repeat (first | refine blk_drewN ?_ _ | refine blk_drew ?_ | refine blk_alloc ?_ _)); refine blk_put (cs := #[.bool a1_0, .string a1_1]) ?_ 0 _ rfl; (with_reducible repeat (first | refine blk_drewN ?_ _ | refine blk_drew ?_ | refine blk_alloc ?_ _)); refine blk_far ?_ NB143_142.out _; (with_reducible repeat (first | refine blk_drewN ?_ _ | refine blk_drew ?_ | refine blk_alloc ?_ _)); refine blk_far ?_ NB143_142.out _; (with_reducible repeat (first | refine blk_drewN ?_ _ | refine blk_drew ?_ | refine blk_alloc ?_ _)); exact BK143.out⟩, ⟨by repeat (first | (with_reducible first | exact HB.out | apply below_alloc | apply pw_below_drewN | apply below_drew1 | refine below_set ?_ GE142.out | refine below_set ?_ GE143.out) | exact HB.out)⟩⟩
   · replace c16 := Bool.eq_false_iff.mpr c16
     subst c16
     have H1 : (spec_intOrder.j0 k false false t145 t146 t147) = some r := by rw [if_neg (show ¬ (false = true) by decide)] at H; exact H
     clear H
     have H := H1
     clear H1
     have H' := Aside0.mk H
     clear H
     have hnb20 := NB142_143.out
     have hnc20 := NB143_142.out
     have hcz21_0 : w10.cell? ⟨gb142, 0, none⟩ = some (.bool a0_0) := (blk_cell BK142.out 0).trans rfl
     have hcz21_1 : w10.cell? ⟨gb142, 1, none⟩ = some (.string a0_1) := (blk_cell BK142.out 1).trans rfl
     have hfz21_0 := blk_frozen BK142.out 0
     have hfz21_1 := blk_frozen BK142.out 1
     go_wp2
     go_meet
     case rel => exact ⟨_, (false), (by first | rfl | (simp; done) | (simp [*]; done) | (simp [bne_nil_]; done)), H', ⟨by first | omega | exact Nat.le_refl _⟩, ⟨by (with_reducible repeat (first | refine blk_drewN ?_ _ | refine blk_drew ?_ | refine blk_alloc ?_ _)); refine blk_far ?_ NB142_143.out _; (with_reducible repeat (first | refine blk_drewN ?_ _ | refine blk_drew ?_ | refine blk_alloc ?_ _)); refine blk_far ?_ NB142_143.out _; (with_reducible repeat (first | refine blk_drewN ?_ _ | refine blk_drew ?_ | refine blk_alloc ?_ _)); refine blk_put (cs := #[.bool false, .string a0_1]) ?_ 1 _ rfl; (with_reducible repeat (first | refine blk_drewN ?_ _ | refine blk_drew ?_ | refine blk_alloc ?_ _)); refine blk_put (cs := #[.bool a0_0, .string a0_1]) ?_ 0 _ rfl; (with_reducible repeat (first | refine blk_drewN ?_ _ | refine blk_drew ?_ | refine blk_alloc ?_ _)); exact BK142.out⟩, ⟨by (with_reducible repeat (first | refine blk_drewN ?_ _ | refine blk_drew ?_ | refine blk_alloc ?_ _)); refine blk_put (cs := #[.bool t146, .string a1_1]) ?_ 1 _ rfl; (with_reducible repeat (first | refine blk_drewN ?_ _ | refine blk_drew ?_ | refine blk_alloc ?_ _)); refine blk_put (cs := #[.bool a1_0, .string a1_1]) ?_ 0 _ rfl; (with_reducible repeat (first | refine blk_drewN ?_ _ | refine blk_drew ?_ | refine blk_alloc ?_ _)); refine blk_far ?_ NB143_142.out _; (with_reducible repeat (first | refine blk_drewN ?_ _ | refine blk_drew ?_ | refine blk_alloc ?_ _)); refine blk_far ?_ NB143_142.out _; (with_reducible repeat (first | refine blk_drewN ?_ _ | refine blk_drew ?_ | refine blk_alloc ?_ _)); exact BK143.out⟩, ⟨by repeat (first | (with_reducible first | exact HB.out | apply below_alloc | apply pw_below_drewN | apply below_drew1 | refine below_set ?_ GE142.out | refine below_set ?_ GE143.out) | exact HB.out)⟩⟩
  case rest =>
   clear HC15
   try clear c1
   try clear c2
   try clear p2
   try clear c3
   try clear c16
   try clear c17
   try clear c20
   try clear hcz18_0
   try clear hcz18_1
   try clear hcz19_0
   try clear hcz19_1
   try clear hcz21_0
   try clear hcz21_1
   try clear hfz18_0
   try clear hfz18_1
   try clear hfz19_0
   try clear hfz19_1
   try clear hfz21_0
   try clear hfz21_1
   obtain ⟨kq, x9_14, rfl, HA, HJ14, BK142, BK143, HB⟩ := hcut
   cases kq with
   | zero => exact absurd HA.out (by simp [spec_intOrder.j0])
   | succ kj14 =>
    have H := HA.out
    clear HA
    simp only [spec_intOrder.j0] at H
    by_cases c22 : x9_14 = true
    · subst c22
      have H1 : (some (-1)) = some r := by rw [if_pos rfl] at H; exact H
      clear H
      have H := H1
      clear H1
      obtain rfl := Option.some.inj H
      go_wp2
      go_ret
      exact ⟨by first | rfl | (simp [errW_none, errW_some] <;> rfl) | (simp [*, errW_none, errW_some] <;> rfl) | (simp [bne_nil_]; done), by repeat (first | (with_reducible first | exact HB.out | apply below_alloc | apply pw_below_drewN | apply below_drew1 | refine below_set ?_ GE142.out | refine below_set ?_ GE143.out) | exact HB.out)⟩
    · replace c22 := Bool.eq_false_iff.mpr c22
      subst c22
      have H1 : (if t144 = true then (spec_intOrder.j1 kj14 false t144 t145 t146 t147) else (spec_intOrder.j1 kj14 t146 t144 t145 t146 t147)) = some r := by rw [if_neg (show ¬ (false = true) by decide)] at H; exact H
      clear H
      have H := H1
      clear H1
      have HC23 := Aside0.mk H
      clear H
      go_upto_region 4 with (fail)
      go_cut [17] (fun v17 wc => ∃ (kq : Nat) (x17_22 : Bool), v17 = .bool x17_22 ∧ Aside0 (spec_intOrder.j1 kq x17_22 t144 t145 t146 t147 = some r) ∧ Aside0 (kq ≤ kj14) ∧ Aside0 (wc.heap[gb142]? = some (.cells #[.bool t144, .string t145] 25 (0, 0))) ∧ Aside0 (wc.heap[gb143]? = some (.cells #[.bool t146, .string t147] 25 (0, 0))) ∧ Aside0 (Below w.heap.size w wc))
      case first =>
       have H := HC23.out
       clear HC23
       by_cases c24 : t144 = true
       · subst c24
         have H1 : (spec_intOrder.j1 kj14 false true t145 t146 t147) = some r := by rw [if_pos rfl] at H; exact H
         clear H
         have H := H1
         clear H1
         have H' := Aside0.mk H
         clear H
         have hnb25 := NB142_143.out
         have hnc25 := NB143_142.out
         have hcz26_0 : wc.cell? ⟨gb142, 0, none⟩ = some (.bool true) := (blk_cell BK142.out 0).trans rfl
         have hcz26_1 : wc.cell? ⟨gb142, 1, none⟩ = some (.string t145) := (blk_cell BK142.out 1).trans rfl
         have hfz26_0 := blk_frozen BK142.out 0
         have hfz26_1 := blk_frozen BK142.out 1
         go_wp2
         go_meet
         case rel => exact ⟨_, (false), (by first | rfl | (simp; done) | (simp [*]; done) | (simp [bne_nil_]; done)), H', ⟨by have := HJ14.out; first | omega | exact Nat.le_refl _⟩, ⟨by (with_reducible repeat (first | refine blk_drewN ?_ _ | refine blk_drew ?_ | refine blk_alloc ?_ _)); exact BK142.out⟩, ⟨by (with_reducible repeat (first | refine blk_drewN ?_ _ | refine blk_drew ?_ | refine blk_alloc ?_ _)); exact BK143.out⟩, ⟨by repeat (first | (with_reducible first | exact HB.out | apply below_alloc | apply pw_below_drewN | apply below_drew1 | refine below_set ?_ GE142.out | refine below_set ?_ GE143.out) | exact HB.out)⟩⟩
       · replace c24 := Bool.eq_false_iff.mpr c24
         subst c24
         have H1 : (spec_intOrder.j1 kj14 t146 false t145 t146 t147) = some r := by rw [if_neg (show ¬ (false = true) by decide)] at H; exact H
         clear H
         have H := H1
         clear H1
         have H' := Aside0.mk H
         clear H
         have hnb27 := NB142_143.out
         have hnc27 := NB143_142.out
         have hcz28_0 : wc.cell? ⟨gb142, 0, none⟩ = some (.bool false) := (blk_cell BK142.out 0).trans rfl
         have hcz28_1 : wc.cell? ⟨gb142, 1, none⟩ = some (.string t145) := (blk_cell BK142.out 1).trans rfl
         have hfz28_0 := blk_frozen BK142.out 0
         have hfz28_1 := blk_frozen BK142.out 1
         have hcz29_0 : wc.cell? ⟨gb143, 0, none⟩ = some (.bool t146) := (blk_cell BK143.out 0).trans rfl
         have hcz29_1 : wc.cell? ⟨gb143, 1, none⟩ = some (.string t147) := (blk_cell BK143.out 1).trans rfl
         have hfz29_0 := blk_frozen BK143.out 0
         have hfz29_1 := blk_frozen BK143.out 1
         go_wp2
         go_meet
         case rel => exact ⟨_, (t146), (by first | rfl | (simp; done) | (simp [*]; done) | (simp [bne_nil_]; done)), H', ⟨by have := HJ14.out; first | omega | exact Nat.le_refl _⟩, ⟨by (with_reducible repeat (first | refine blk_drewN ?_ _ | refine blk_drew ?_ | refine blk_alloc ?_ _)); exact BK142.out⟩, ⟨by (with_reducible repeat (first | refine blk_drewN ?_ _ | refine blk_drew ?_ | refine blk_alloc ?_ _)); exact BK143.out⟩, ⟨by repeat (first | (with_reducible first | exact HB.out | apply below_alloc | apply pw_below_drewN | apply below_drew1 | refine below_set ?_ GE142.out | refine below_set ?_ GE143.out) | exact HB.out)⟩⟩
      case rest =>
       clear HC23
       try clear c1
       try clear c2
       try clear p2
       try clear c3
       try clear c16
       try clear c17
       try clear c20
       try clear c22
       try clear c24
       try clear c25
       try clear c27
       try clear hcz18_0
       try clear hcz18_1
       try clear hcz19_0
       try clear hcz19_1
       try clear hcz21_0
       try clear hcz21_1
       try clear hcz26_0
       try clear hcz26_1
       try clear hcz28_0
       try clear hcz28_1
       try clear hcz29_0
       try clear hcz29_1
       try clear hfz18_0
       try clear hfz18_1
       try clear hfz19_0
       try clear hfz19_1
       try clear hfz21_0
       try clear hfz21_1
       try clear hfz26_0
       try clear hfz26_1
       try clear hfz28_0
       try clear hfz28_1
       try clear hfz29_0
       try clear hfz29_1
       try clear p2
       obtain ⟨kq, x17_22, rfl, HA, HJ22, BK142, BK143, HB⟩ := hcut
       cases kq with
       | zero => exact absurd HA.out (by simp [spec_intOrder.j1])
       | succ kj22 =>
        have H := HA.out
        clear HA
        simp only [spec_intOrder.j1] at H
        by_cases c30 : x17_22 = true
        · subst c30
          have H1 : (some 1) = some r := by rw [if_pos rfl] at H; exact H
          clear H
          have H := H1
          clear H1
          obtain rfl := Option.some.inj H
          go_wp2
          go_ret
          exact ⟨by first | rfl | (simp [errW_none, errW_some] <;> rfl) | (simp [*, errW_none, errW_some] <;> rfl) | (simp [bne_nil_]; done), by repeat (first | (with_reducible first | exact HB.out | apply below_alloc | apply pw_below_drewN | apply below_drew1 | refine below_set ?_ GE142.out | refine below_set ?_ GE143.out) | exact HB.out)⟩
        · replace c30 := Bool.eq_false_iff.mpr c30
          subst c30
          have H1 : (if t144 = true then (spec_intOrder.j2 kj22 t146 t147 t144 t145) else (spec_intOrder.j2 kj22 t144 t145 t146 t147)) = some r := by rw [if_neg (show ¬ (false = true) by decide)] at H; exact H
          clear H
          have H := H1
          clear H1
          by_cases c31 : t144 = true
          · subst c31
            have H1 : (spec_intOrder.j2 kj22 t146 t147 true t145) = some r := by rw [if_pos rfl] at H; exact H
            clear H
            have H := H1
            clear H1
            have H' := Aside0.mk H
            clear H
            have hnb32 := NB142_143.out
            have hnc32 := NB143_142.out
            have hcz33_0 : wc.cell? ⟨gb142, 0, none⟩ = some (.bool true) := (blk_cell BK142.out 0).trans rfl
            have hcz33_1 : wc.cell? ⟨gb142, 1, none⟩ = some (.string t145) := (blk_cell BK142.out 1).trans rfl
            have hfz33_0 := blk_frozen BK142.out 0
            have hfz33_1 := blk_frozen BK142.out 1
            have hcz34_0 : wc.cell? ⟨gb143, 0, none⟩ = some (.bool t146) := (blk_cell BK143.out 0).trans rfl
            have hcz34_1 : wc.cell? ⟨gb143, 1, none⟩ = some (.string t147) := (blk_cell BK143.out 1).trans rfl
            have hfz34_0 := blk_frozen BK143.out 0
            have hfz34_1 := blk_frozen BK143.out 1
            go_wp2
            go_meet
            case rel => exact ⟨_, (t146), (t147), (true), (t145), H', ⟨by have := HJ14.out; have := HJ22.out; first | omega | exact Nat.le_refl _⟩, ⟨by (with_reducible repeat (first | refine blk_drewN ?_ _ | refine blk_drew ?_ | refine blk_alloc ?_ _)); refine blk_far ?_ NB142_143.out _; (with_reducible repeat (first | refine blk_drewN ?_ _ | refine blk_drew ?_ | refine blk_alloc ?_ _)); refine blk_far ?_ NB142_143.out _; (with_reducible repeat (first | refine blk_drewN ?_ _ | refine blk_drew ?_ | refine blk_alloc ?_ _)); refine blk_put (cs := #[.bool t146, .string t145]) ?_ 1 _ rfl; (with_reducible repeat (first | refine blk_drewN ?_ _ | refine blk_drew ?_ | refine blk_alloc ?_ _)); refine blk_put (cs := #[.bool true, .string t145]) ?_ 0 _ rfl; (with_reducible repeat (first | refine blk_drewN ?_ _ | refine blk_drew ?_ | refine blk_alloc ?_ _)); exact BK142.out⟩, ⟨by (with_reducible repeat (first | refine blk_drewN ?_ _ | refine blk_drew ?_ | refine blk_alloc ?_ _)); refine blk_put (cs := #[.bool true, .string t147]) ?_ 1 _ rfl; (with_reducible repeat (first | refine blk_drewN ?_ _ | refine blk_drew ?_ | refine blk_alloc ?_ _)); refine blk_put (cs := #[.bool t146, .string t147]) ?_ 0 _ rfl; (with_reducible repeat (first | refine blk_drewN ?_ _ | refine blk_drew ?_ | refine blk_alloc ?_ _)); refine blk_far ?_ NB143_142.out _; (with_reducible repeat (first | refine blk_drewN ?_ _ | refine blk_drew ?_ | refine blk_alloc ?_ _)); refine blk_far ?_ NB143_142.out _; (with_reducible repeat (first | refine blk_drewN ?_ _ | refine blk_drew ?_ | refine blk_alloc ?_ _)); exact BK143.out⟩, ⟨by repeat (first | (with_reducible first | exact HB.out | apply below_alloc | apply pw_below_drewN | apply below_drew1 | refine below_set ?_ GE142.out | refine below_set ?_ GE143.out) | exact HB.out)⟩⟩
          · replace c31 := Bool.eq_false_iff.mpr c31
            subst c31
            have H1 : (spec_intOrder.j2 kj22 false t145 t146 t147) = some r := by rw [if_neg (show ¬ (false = true) by decide)] at H; exact H
            clear H
            have H := H1
            clear H1
            have H' := Aside0.mk H
            clear H
            have hnb35 := NB142_143.out
            have hnc35 := NB143_142.out
            have hcz36_0 : wc.cell? ⟨gb142, 0, none⟩ = some (.bool false) := (blk_cell BK142.out 0).trans rfl
            have hcz36_1 : wc.cell? ⟨gb142, 1, none⟩ = some (.string t145) := (blk_cell BK142.out 1).trans rfl
            have hfz36_0 := blk_frozen BK142.out 0
            have hfz36_1 := blk_frozen BK142.out 1
            go_wp2
            go_meet
            case rel => exact ⟨_, (false), (t145), (t146), (t147), H', ⟨by have := HJ14.out; have := HJ22.out; first | omega | exact Nat.le_refl _⟩, ⟨by (with_reducible repeat (first | refine blk_drewN ?_ _ | refine blk_drew ?_ | refine blk_alloc ?_ _)); exact BK142.out⟩, ⟨by (with_reducible repeat (first | refine blk_drewN ?_ _ | refine blk_drew ?_ | refine blk_alloc ?_ _)); exact BK143.out⟩, ⟨by repeat (first | (with_reducible first | exact HB.out | apply below_alloc | apply pw_below_drewN | apply below_drew1 | refine below_set ?_ GE142.out | refine below_set ?_ GE143.out) | exact HB.out)⟩⟩
 case rest =>
  clear HC5
  try clear c1
  try clear c2
  try clear p2
  try clear c3
  try clear c16
  try clear c17
  try clear c20
  try clear c22
  try clear c24
  try clear c25
  try clear c27
  try clear c30
  try clear c31
  try clear c32
  try clear c35
  try clear c36
  try clear hcz18_0
  try clear hcz18_1
  try clear hcz19_0
  try clear hcz19_1
  try clear hcz21_0
  try clear hcz21_1
  try clear hcz26_0
  try clear hcz26_1
  try clear hcz28_0
  try clear hcz28_1
  try clear hcz29_0
  try clear hcz29_1
  try clear hcz33_0
  try clear hcz33_1
  try clear hcz34_0
  try clear hcz34_1
  try clear hcz36_0
  try clear hcz36_1
  try clear hfz18_0
  try clear hfz18_1
  try clear hfz19_0
  try clear hfz19_1
  try clear hfz21_0
  try clear hfz21_1
  try clear hfz26_0
  try clear hfz26_1
  try clear hfz28_0
  try clear hfz28_1
  try clear hfz29_0
  try clear hfz29_1
  try clear hfz33_0
  try clear hfz33_1
  try clear hfz34_0
  try clear hfz34_1
  try clear hfz36_0
  try clear hfz36_1
  try clear p2
  obtain ⟨kq, x143000_4, x143001_4, x144000_4, x144001_4, HA, HJ4, BK142, BK143, HB⟩ := hcut
  cases kq with
  | zero => exact absurd HA.out (by simp [spec_intOrder.j2])
  | succ kj4 =>
   have H := HA.out
   clear HA
   simp only [spec_intOrder.j2] at H
   by_cases c37 : (x143001_4.size : Int) = (x144001_4.size : Int)
   · rw [if_pos c37] at H
     have c37b0 : ((x143001_4.size : Int) == (x144001_4.size : Int)) = true := beq_iff_eq.mpr c37
     have c37b1 : ((x143001_4.size : Int) != (x144001_4.size : Int)) = false := bne_eq_false_iff_eq.mpr c37
     have c37b2 : (x143001_4.size == x144001_4.size) = true := by first | simpa using c37 | (simp at c37 ⊢; omega)
     clear c37
     replace H := Option.bind_eq_some_iff.mp H
     obtain ⟨t148, A380, H⟩ := H
     replace H : (some t148) = some r := H
     have A38 := Aside0.mk A380
     clear A380
     obtain rfl := Option.some.inj H
     have hnb39 := NB142_143.out
     have hnc39 := NB143_142.out
     have hcz40_0 : wc.cell? ⟨gb142, 0, none⟩ = some (.bool x143000_4) := (blk_cell BK142.out 0).trans rfl
     have hcz40_1 : wc.cell? ⟨gb142, 1, none⟩ = some (.string x143001_4) := (blk_cell BK142.out 1).trans rfl
     have hfz40_0 := blk_frozen BK142.out 0
     have hfz40_1 := blk_frozen BK142.out 1
     have hcz41_0 : wc.cell? ⟨gb143, 0, none⟩ = some (.bool x144000_4) := (blk_cell BK143.out 0).trans rfl
     have hcz41_1 : wc.cell? ⟨gb143, 1, none⟩ = some (.string x144001_4) := (blk_cell BK143.out 1).trans rfl
     have hfz41_0 := blk_frozen BK143.out 0
     have hfz41_1 := blk_frozen BK143.out 1
     go_wp2_with (first | ((with_reducible refine gate_callee (f := 38) rfl ?_); refine goesL_ (some 48) rfl rfl Tryd.func38 (by kernel_rfl) rfl #[.string x143001_4, .string x144001_4] rfl (by (try simp only [List.map_toArray, List.map_cons, List.map_nil]); first | done | rfl | (simp only [List.length_drop, List.length_take]; rfl)) ?_; (with_reducible refine (Giv.spec_order.calls x143001_4 x144001_4 t148 _ A38.out).mono ?_); rintro e w' ⟨rfl, ⟨nd, rfl⟩⟩; refine ⟨_, rfl, ?_⟩))
     go_ret
     exact ⟨by first | rfl | (simp [errW_none, errW_some] <;> rfl) | (simp [*, errW_none, errW_some] <;> rfl) | (simp [bne_nil_]; done), by repeat (first | (with_reducible first | exact HB.out | apply below_alloc | apply pw_below_drewN | apply below_drew1 | refine below_set ?_ GE142.out | refine below_set ?_ GE143.out) | exact HB.out)⟩
   · rw [if_neg c37] at H
     have c37b0 : ((x143001_4.size : Int) == (x144001_4.size : Int)) = false := beq_eq_false_iff_ne.mpr c37
     have c37b1 : ((x143001_4.size : Int) != (x144001_4.size : Int)) = true := bne_iff_ne.mpr c37
     have c37b2 : (x143001_4.size == x144001_4.size) = false := by first | simpa using c37 | (simp at c37 ⊢; omega)
     replace H := Option.bind_eq_some_iff.mp H
     obtain ⟨t149, A420, H⟩ := H
     replace H : (some t149) = some r := H
     have A42 := Aside0.mk A420
     clear A420
     obtain rfl := Option.some.inj H
     have hnb43 := NB142_143.out
     have hnc43 := NB143_142.out
     have hcz44_0 : wc.cell? ⟨gb142, 0, none⟩ = some (.bool x143000_4) := (blk_cell BK142.out 0).trans rfl
     have hcz44_1 : wc.cell? ⟨gb142, 1, none⟩ = some (.string x143001_4) := (blk_cell BK142.out 1).trans rfl
     have hfz44_0 := blk_frozen BK142.out 0
     have hfz44_1 := blk_frozen BK142.out 1
     have hcz45_0 : wc.cell? ⟨gb143, 0, none⟩ = some (.bool x144000_4) := (blk_cell BK143.out 0).trans rfl
     have hcz45_1 : wc.cell? ⟨gb143, 1, none⟩ = some (.string x144001_4) := (blk_cell BK143.out 1).trans rfl
     have hfz45_0 := blk_frozen BK143.out 0
     have hfz45_1 := blk_frozen BK143.out 1
     go_wp2_with (first | ((with_reducible refine gate_callee (f := 37) rfl ?_); refine goesL_ (some 43) rfl rfl Tryd.func37 (by kernel_rfl) rfl #[.int .i64 (x143001_4.size : Int), .int .i64 (x144001_4.size : Int)] rfl (by (try simp only [List.map_toArray, List.map_cons, List.map_nil]); first | done | rfl | (simp only [List.length_drop, List.length_take]; rfl)) ?_; (with_reducible refine (spec_orderInts.calls (x143001_4.size : Int) (x144001_4.size : Int) t149 _ A42.out).mono ?_); rintro e w' ⟨rfl, ⟨nd, rfl⟩⟩; refine ⟨_, rfl, ?_⟩))
     go_ret
     exact ⟨by first | rfl | (simp [errW_none, errW_some] <;> rfl) | (simp [*, errW_none, errW_some] <;> rfl) | (simp [bne_nil_]; done), by repeat (first | (with_reducible first | exact HB.out | apply below_alloc | apply pw_below_drewN | apply below_drew1 | refine below_set ?_ GE142.out | refine below_set ?_ GE143.out) | exact HB.out)⟩

/-! ### spec_isLetter: function 53 -/
def spec_isLetter.f (a0 : Int) : Option (Bool) := if a0 ≥ 97 then (if a0 ≤ 122 then (some true) else (if a0 ≥ 65 then (some (decide (a0 ≤ 90))) else (some false))) else (if a0 ≥ 65 then (some (decide (a0 ≤ 90))) else (some false))
set_option maxHeartbeats 8000000 in
set_option maxRecDepth 100000 in
theorem spec_isLetter.calls (a0 : Int) (r : Bool) (w : World) (h : spec_isLetter.f a0 = some r) :
 Calls Tryd.prog 53 #[.int .u8 a0] w fun e w' => e = .returned (.bool r) ∧ Drawn0 w w' := by
 have H : (if a0 ≥ 97 then (if a0 ≤ 122 then (some true) else (if a0 ≥ 65 then (some (decide (a0 ≤ 90))) else (some false))) else (if a0 ≥ 65 then (some (decide (a0 ≤ 90))) else (some false))) = some r := h
 clear h
 by_cases c2 : a0 ≥ 97
 · rw [if_pos c2] at H
   have c2b0 : decide (97 ≤ a0) = true := decide_eq_true c2
   clear c2
   by_cases c3 : a0 ≤ 122
   · rw [if_pos c3] at H
     have c3b0 : decide (a0 ≤ 122) = true := decide_eq_true c3
     clear c3
     obtain rfl := Option.some.inj H
     go_enter Tryd.func53, Tryd.ntmps53
     go_wp2
     go_ret
     exact ⟨by first | rfl | (simp; done) | (simp [*]; done) | (simp [bne_nil_]; done), by repeat (first | exact Drawn0.refl _ | apply Drawn0.step)⟩
   · rw [if_neg c3] at H
     have c3b0 : decide (a0 ≤ 122) = false := decide_eq_false c3
     clear c3
     by_cases c4 : a0 ≥ 65
     · rw [if_pos c4] at H
       have c4b0 : decide (65 ≤ a0) = true := decide_eq_true c4
       clear c4
       obtain rfl := Option.some.inj H
       go_enter Tryd.func53, Tryd.ntmps53
       go_wp2
       go_ret
       exact ⟨by first | rfl | (simp; done) | (simp [*]; done) | (simp [bne_nil_]; done), by repeat (first | exact Drawn0.refl _ | apply Drawn0.step)⟩
     · rw [if_neg c4] at H
       have c4b0 : decide (65 ≤ a0) = false := decide_eq_false c4
       clear c4
       obtain rfl := Option.some.inj H
       go_enter Tryd.func53, Tryd.ntmps53
       go_wp2
       go_ret
       exact ⟨by first | rfl | (simp; done) | (simp [*]; done) | (simp [bne_nil_]; done), by repeat (first | exact Drawn0.refl _ | apply Drawn0.step)⟩
 · rw [if_neg c2] at H
   have c2b0 : decide (97 ≤ a0) = false := decide_eq_false c2
   clear c2
   by_cases c5 : a0 ≥ 65
   · rw [if_pos c5] at H
     have c5b0 : decide (65 ≤ a0) = true := decide_eq_true c5
     clear c5
     obtain rfl := Option.some.inj H
     go_enter Tryd.func53, Tryd.ntmps53
     go_wp2
     go_ret
     exact ⟨by first | rfl | (simp; done) | (simp [*]; done) | (simp [bne_nil_]; done), by repeat (first | exact Drawn0.refl _ | apply Drawn0.step)⟩
   · rw [if_neg c5] at H
     have c5b0 : decide (65 ≤ a0) = false := decide_eq_false c5
     clear c5
     obtain rfl := Option.some.inj H
     go_enter Tryd.func53, Tryd.ntmps53
     go_wp2
     go_ret
     exact ⟨by first | rfl | (simp; done) | (simp [*]; done) | (simp [bne_nil_]; done), by repeat (first | exact Drawn0.refl _ | apply Drawn0.step)⟩

/-! ### spec_debWeight: function 40 -/
def spec_debWeight.j0 : Nat → ByteArray → Int → Bool → Option (Int)
 | 0, _, _, _ => none
 | k + 1, x0, x1, x5 => if x5 = true then (some 0) else (if 0 ≤ x1 then (if x1 < (x0.size : Int) then (if (bt x0 x1) = 126 then (some (-1)) else ((spec_isLetter.f (bt x0 x1)).bind fun t151 => (if t151 = true then (some (wrap64 (bt x0 x1))) else (some (wrap64 ((wrap64 (bt x0 x1)) + 256)))))) else (none)) else (none))
def spec_debWeight.f (k : Nat) (a0 : ByteArray) (a1 : Int) : Option (Int) := if a1 ≥ (a0.size : Int) then (spec_debWeight.j0 k a0 a1 true) else (if 0 ≤ a1 then (if a1 < (a0.size : Int) then ((spec_isDigit.f (bt a0 a1)).bind fun t150 => (spec_debWeight.j0 k a0 a1 t150)) else (none)) else (none))
theorem spec_debWeight.mono_l : ∀ k, (∀ y0 y1 y2, LeO (spec_debWeight.j0 k y0 y1 y2) (spec_debWeight.j0 (k + 1) y0 y1 y2))
 | 0 => fun _ _ _ r h => by simp [spec_debWeight.j0] at h
 | k + 1 => by
  have ih0 := spec_debWeight.mono_l k
  · intro y0 y1 y2
    unfold spec_debWeight.j0
    repeat' first
    | (with_reducible exact ih0 _ _ _)
    | (with_reducible exact LeO.refl _)
    | (with_reducible exact LeO.none _)
    | (with_reducible refine LeO.ite ?_ ?_)
    | (with_reducible refine LeO.bind ?_ (fun _ => ?_))
    | exact ih0 _ _ _
    | exact LeO.none _
    | refine LeO.ite ?_ ?_
    | refine LeO.bind ?_ (fun _ => ?_)
theorem spec_debWeight.mono : ∀ a0 a1 k, LeO (spec_debWeight.f k a0 a1) (spec_debWeight.f (k + 1) a0 a1) := by
 intro a0 a1 k
 have ih0 := spec_debWeight.mono_l k
 unfold spec_debWeight.f
 repeat' first
  | (with_reducible exact ih0 _ _ _)
  | (with_reducible exact LeO.refl _)
  | (with_reducible exact LeO.none _)
  | (with_reducible refine LeO.ite ?_ ?_)
  | (with_reducible refine LeO.bind ?_ (fun _ => ?_))
  | exact ih0 _ _ _
  | exact LeO.none _
  | refine LeO.ite ?_ ?_
  | refine LeO.bind ?_ (fun _ => ?_)
set_option maxHeartbeats 8000000 in
set_option maxRecDepth 100000 in
theorem spec_debWeight.calls (k : Nat) (a0 : ByteArray) (a1 : Int) (r : Int) (w : World) (h : spec_debWeight.f k a0 a1 = some r) :
 Calls Tryd.prog 40 #[.string a0, .int .i64 a1] w fun e w' => e = .returned (.int .i64 r) ∧ Drawn0 w w' := by
 have H : (if a1 ≥ (a0.size : Int) then (spec_debWeight.j0 k a0 a1 true) else (if 0 ≤ a1 then (if a1 < (a0.size : Int) then ((spec_isDigit.f (bt a0 a1)).bind fun t150 => (spec_debWeight.j0 k a0 a1 t150)) else (none)) else (none))) = some r := h
 clear h
 have HC3 := Aside0.mk H
 clear H
 go_enter Tryd.func40, Tryd.ntmps40
 go_upto_region 1 with (fail)
 go_cut [5] (fun v5 wc => ∃ (kq : Nat) (x5_2 : Bool), v5 = .bool x5_2 ∧ Aside0 (spec_debWeight.j0 kq a0 a1 x5_2 = some r) ∧ Aside0 (kq ≤ k) ∧ Drawn0 w wc)
 case first =>
  have H := HC3.out
  clear HC3
  by_cases c4 : a1 ≥ (a0.size : Int)
  · rw [if_pos c4] at H
    have c4b0 : decide ((a0.size : Int) ≤ a1) = true := decide_eq_true c4
    clear c4
    (first | rw [c4b0] | (simp only [i64_w, i32_w]; rw [c4b0]) | skip)
    have H' := Aside0.mk H
    clear H
    go_wp2
    go_meet
    case rel => exact ⟨_, (true), (by first | rfl | (simp; done) | (simp [*]; done) | (simp [bne_nil_]; done)), H', ⟨by first | omega | exact Nat.le_refl _⟩, by repeat (first | exact Drawn0.refl _ | apply Drawn0.step)⟩
  · rw [if_neg c4] at H
    have c4b0 : decide ((a0.size : Int) ≤ a1) = false := decide_eq_false c4
    clear c4
    (first | rw [c4b0] | (simp only [i64_w, i32_w]; rw [c4b0]) | skip)
    by_cases c5 : 0 ≤ a1
    · rw [if_pos c5] at H
      have c5b0 : decide (0 ≤ a1) = true := decide_eq_true c5
      clear c5
      by_cases c6 : a1 < (a0.size : Int)
      · rw [if_pos c6] at H
        have c6b0 : decide (a1 < (a0.size : Int)) = true := decide_eq_true c6
        clear c6
        replace H := Option.bind_eq_some_iff.mp H
        obtain ⟨t150, A80, H⟩ := H
        replace H : (spec_debWeight.j0 k a0 a1 t150) = some r := H
        have A8 := Aside0.mk A80
        clear A80
        have H' := Aside0.mk H
        clear H
        have p7 : 0 ≤ (a1 : Int) := of_decide_eq_true (by first | (with_reducible assumption) | assumption)
        have q7 : a1 < (a0.size : Int) := of_decide_eq_true (by first | (with_reducible assumption) | assumption)
        have hx7 := bt_at a0 a1
        replace p7 := eq_true p7
        replace q7 := eq_true q7
        go_wp2_with (first | (go_at_call 39; (with_reducible refine (spec_isDigit.calls (bt a0 a1) t150 _ A8.out).mono ?_); rintro e w' ⟨rfl, ⟨nd, rfl⟩⟩))
        go_meet
        case rel => exact ⟨_, (t150), (by first | rfl | (simp; done) | (simp [*]; done) | (simp [bne_nil_]; done)), H', ⟨by first | omega | exact Nat.le_refl _⟩, by repeat (first | exact Drawn0.refl _ | apply Drawn0.step)⟩
      · rw [if_neg c6] at H
        exact absurd H (by simp)
    · rw [if_neg c5] at H
      exact absurd H (by simp)
 case rest =>
  clear HC3
  try clear p2
  try clear c4
  try clear c4b0
  try clear c5
  try clear c5b0
  try clear c6
  try clear c6b0
  try clear p7
  try clear q7
  try clear hx7
  try clear p7
  try clear q7
  obtain ⟨kq, x5_2, rfl, HA, HJ2, ⟨mc2, rfl⟩⟩ := hcut
  cases kq with
  | zero => exact absurd HA.out (by simp [spec_debWeight.j0])
  | succ kj2 =>
   have H := HA.out
   clear HA
   simp only [spec_debWeight.j0] at H
   by_cases c9 : x5_2 = true
   · subst c9
     have H1 : (some 0) = some r := by rw [if_pos rfl] at H; exact H
     clear H
     have H := H1
     clear H1
     obtain rfl := Option.some.inj H
     go_wp2
     go_ret
     exact ⟨by first | rfl | (simp; done) | (simp [*]; done) | (simp [bne_nil_]; done), by repeat (first | exact Drawn0.refl _ | apply Drawn0.step)⟩
   · replace c9 := Bool.eq_false_iff.mpr c9
     subst c9
     have H1 : (if 0 ≤ a1 then (if a1 < (a0.size : Int) then (if (bt a0 a1) = 126 then (some (-1)) else ((spec_isLetter.f (bt a0 a1)).bind fun t151 => (if t151 = true then (some (wrap64 (bt a0 a1))) else (some (wrap64 ((wrap64 (bt a0 a1)) + 256)))))) else (none)) else (none)) = some r := by rw [if_neg (show ¬ (false = true) by decide)] at H; exact H
     clear H
     have H := H1
     clear H1
     by_cases c10 : 0 ≤ a1
     · rw [if_pos c10] at H
       have c10b0 : decide (0 ≤ a1) = true := decide_eq_true c10
       clear c10
       by_cases c11 : a1 < (a0.size : Int)
       · rw [if_pos c11] at H
         have c11b0 : decide (a1 < (a0.size : Int)) = true := decide_eq_true c11
         clear c11
         by_cases c13 : (bt a0 a1) = 126
         · rw [if_pos c13] at H
           have c13b0 : ((bt a0 a1) == 126) = true := beq_iff_eq.mpr c13
           have c13b1 : ((bt a0 a1) != 126) = false := bne_eq_false_iff_eq.mpr c13
           clear c13
           obtain rfl := Option.some.inj H
           have p12 : 0 ≤ (a1 : Int) := of_decide_eq_true (by first | (with_reducible assumption) | assumption)
           have q12 : a1 < (a0.size : Int) := of_decide_eq_true (by first | (with_reducible assumption) | assumption)
           have hx12 := bt_at a0 a1
           replace p12 := eq_true p12
           replace q12 := eq_true q12
           go_wp2
           go_ret
           exact ⟨by first | rfl | (simp; done) | (simp [*]; done) | (simp [bne_nil_]; done), by repeat (first | exact Drawn0.refl _ | apply Drawn0.step)⟩
         · rw [if_neg c13] at H
           have c13b0 : ((bt a0 a1) == 126) = false := beq_eq_false_iff_ne.mpr c13
           have c13b1 : ((bt a0 a1) != 126) = true := bne_iff_ne.mpr c13
           replace H := Option.bind_eq_some_iff.mp H
           obtain ⟨t151, A150, H⟩ := H
           replace H : (if t151 = true then (some (wrap64 (bt a0 a1))) else (some (wrap64 ((wrap64 (bt a0 a1)) + 256)))) = some r := H
           have A15 := Aside0.mk A150
           clear A150
           by_cases c16 : t151 = true
           · subst c16
             have H1 : (some (wrap64 (bt a0 a1))) = some r := by rw [if_pos rfl] at H; exact H
             clear H
             have H := H1
             clear H1
             obtain rfl := Option.some.inj H
             have p12 : 0 ≤ (a1 : Int) := of_decide_eq_true (by first | (with_reducible assumption) | assumption)
             have q12 : a1 < (a0.size : Int) := of_decide_eq_true (by first | (with_reducible assumption) | assumption)
             have hx12 := bt_at a0 a1
             replace p12 := eq_true p12
             replace q12 := eq_true q12
             have p14 : 0 ≤ (a1 : Int) := of_decide_eq_true (by first | (with_reducible assumption) | assumption)
             have q14 : a1 < (a0.size : Int) := of_decide_eq_true (by first | (with_reducible assumption) | assumption)
             have hx14 := bt_at a0 a1
             replace p14 := eq_true p14
             replace q14 := eq_true q14
             go_wp2_with (first | ((with_reducible refine gate_callee (f := 53) rfl ?_); refine goesL_ (some 25) rfl rfl Tryd.func53 (by kernel_rfl) rfl #[.int .u8 (bt a0 a1)] rfl (by (try simp only [List.map_toArray, List.map_cons, List.map_nil]); first | done | rfl | (simp only [List.length_drop, List.length_take]; rfl)) ?_; (with_reducible refine (spec_isLetter.calls (bt a0 a1) true _ A15.out).mono ?_); rintro e w' ⟨rfl, ⟨nd, rfl⟩⟩; refine ⟨_, rfl, ?_⟩; have p17 : 0 ≤ (a1 : Int) := of_decide_eq_true (by first | (with_reducible assumption) | assumption); have q17 : a1 < (a0.size : Int) := of_decide_eq_true (by first | (with_reducible assumption) | assumption); have hx17 := bt_at a0 a1; replace p17 := eq_true p17; replace q17 := eq_true q17))
             go_ret
             exact ⟨by first | rfl | (simp; done) | (simp [*]; done) | (simp [bne_nil_]; done), by repeat (first | exact Drawn0.refl _ | apply Drawn0.step)⟩
           · replace c16 := Bool.eq_false_iff.mpr c16
             subst c16
             have H1 : (some (wrap64 ((wrap64 (bt a0 a1)) + 256))) = some r := by rw [if_neg (show ¬ (false = true) by decide)] at H; exact H
             clear H
             have H := H1
             clear H1
             obtain rfl := Option.some.inj H
             have p12 : 0 ≤ (a1 : Int) := of_decide_eq_true (by first | (with_reducible assumption) | assumption)
             have q12 : a1 < (a0.size : Int) := of_decide_eq_true (by first | (with_reducible assumption) | assumption)
             have hx12 := bt_at a0 a1
             replace p12 := eq_true p12
             replace q12 := eq_true q12
             have p14 : 0 ≤ (a1 : Int) := of_decide_eq_true (by first | (with_reducible assumption) | assumption)
             have q14 : a1 < (a0.size : Int) := of_decide_eq_true (by first | (with_reducible assumption) | assumption)
             have hx14 := bt_at a0 a1
             replace p14 := eq_true p14
             replace q14 := eq_true q14
             go_wp2_with (first | ((with_reducible refine gate_callee (f := 53) rfl ?_); refine goesL_ (some 25) rfl rfl Tryd.func53 (by kernel_rfl) rfl #[.int .u8 (bt a0 a1)] rfl (by (try simp only [List.map_toArray, List.map_cons, List.map_nil]); first | done | rfl | (simp only [List.length_drop, List.length_take]; rfl)) ?_; (with_reducible refine (spec_isLetter.calls (bt a0 a1) false _ A15.out).mono ?_); rintro e w' ⟨rfl, ⟨nd, rfl⟩⟩; refine ⟨_, rfl, ?_⟩; have p18 : 0 ≤ (a1 : Int) := of_decide_eq_true (by first | (with_reducible assumption) | assumption); have q18 : a1 < (a0.size : Int) := of_decide_eq_true (by first | (with_reducible assumption) | assumption); have hx18 := bt_at a0 a1; replace p18 := eq_true p18; replace q18 := eq_true q18))
             go_ret
             exact ⟨by first | rfl | (simp; done) | (simp [*]; done) | (simp [bne_nil_]; done), by repeat (first | exact Drawn0.refl _ | apply Drawn0.step)⟩
       · rw [if_neg c11] at H
         exact absurd H (by simp)
     · rw [if_neg c10] at H
       exact absurd H (by simp)

/-! ### spec_debRun: function 41 -/
def spec_debRun.l0 : Nat → ByteArray → Int → Option (Int)
 | 0, _, _ => none
 | k + 1, x0, x3 => if x3 < (x0.size : Int) then (if 0 ≤ x3 then ((spec_isDigit.f (bt x0 x3)).bind fun t152 => (if t152 = true then (spec_debRun.l0 k x0 (wrap64 (x3 + 1))) else (some x3))) else (none)) else (some x3)
def spec_debRun.f (k : Nat) (a0 : ByteArray) : Option (Int) := spec_debRun.l0 k a0 0
theorem spec_debRun.mono_l : ∀ k, (∀ y0 y1, LeO (spec_debRun.l0 k y0 y1) (spec_debRun.l0 (k + 1) y0 y1))
 | 0 => fun _ _ r h => by simp [spec_debRun.l0] at h
 | k + 1 => by
  have ih0 := spec_debRun.mono_l k
  · intro y0 y1
    unfold spec_debRun.l0
    repeat' first
    | (with_reducible exact ih0 _ _)
    | (with_reducible exact LeO.refl _)
    | (with_reducible exact LeO.none _)
    | (with_reducible refine LeO.ite ?_ ?_)
    | (with_reducible refine LeO.bind ?_ (fun _ => ?_))
    | exact ih0 _ _
    | exact LeO.none _
    | refine LeO.ite ?_ ?_
    | refine LeO.bind ?_ (fun _ => ?_)
theorem spec_debRun.mono : ∀ a0 k, LeO (spec_debRun.f k a0) (spec_debRun.f (k + 1) a0) := by
 intro a0 k
 have ih0 := spec_debRun.mono_l k
 unfold spec_debRun.f
 repeat' first
  | (with_reducible exact ih0 _ _)
  | (with_reducible exact LeO.refl _)
  | (with_reducible exact LeO.none _)
  | (with_reducible refine LeO.ite ?_ ?_)
  | (with_reducible refine LeO.bind ?_ (fun _ => ?_))
  | exact ih0 _ _
  | exact LeO.none _
  | refine LeO.ite ?_ ?_
  | refine LeO.bind ?_ (fun _ => ?_)
set_option maxHeartbeats 8000000 in
set_option maxRecDepth 100000 in
theorem spec_debRun.calls (k : Nat) (a0 : ByteArray) (r : Int) (w : World) (h : spec_debRun.f k a0 = some r) :
 Calls Tryd.prog 41 #[.string a0] w fun e w' => e = .returned (.int .i64 r) ∧ Drawn0 w w' := by
 have H : (spec_debRun.l0 k a0 0) = some r := h
 clear h
 have H' := Aside0.mk H
 clear H
 go_enter Tryd.func41, Tryd.ntmps41
 go_wp2
 go_loopg [3] k (fun kq v3 w' => ∃ (x3_1 : Int), v3 = .int .i64 x3_1 ∧ Aside0 (spec_debRun.l0 kq a0 x3_1 = some r) ∧ Aside0 (kq ≤ k) ∧ Drawn0 w w')
 case atStart => exact ⟨(0), (by first | rfl | (simp; done) | (simp [*]; done) | (simp [bne_nil_]; done)), H', ⟨Nat.le_refl _⟩, by repeat (first | exact Drawn0.refl _ | apply Drawn0.step)⟩
 case round =>
  clear H'
  obtain ⟨x3_1, rfl, HA, HK1, ⟨m1, rfl⟩⟩ := hrel
  cases gk with
  | zero => exact absurd HA.out (by simp [spec_debRun.l0])
  | succ k1 =>
   have H := HA.out
   clear HA
   simp only [spec_debRun.l0] at H
   by_cases c2 : x3_1 < (a0.size : Int)
   · rw [if_pos c2] at H
     have c2b0 : decide (x3_1 < (a0.size : Int)) = true := decide_eq_true c2
     clear c2
     by_cases c3 : 0 ≤ x3_1
     · rw [if_pos c3] at H
       have c3b0 : decide (0 ≤ x3_1) = true := decide_eq_true c3
       clear c3
       replace H := Option.bind_eq_some_iff.mp H
       obtain ⟨t152, A50, H⟩ := H
       replace H : (if t152 = true then (spec_debRun.l0 k1 a0 (wrap64 (x3_1 + 1))) else (some x3_1)) = some r := H
       have A5 := Aside0.mk A50
       clear A50
       by_cases c6 : t152 = true
       · subst c6
         have H1 : (spec_debRun.l0 k1 a0 (wrap64 (x3_1 + 1))) = some r := by rw [if_pos rfl] at H; exact H
         clear H
         have H := H1
         clear H1
         have H' := Aside0.mk H
         clear H
         have p4 : 0 ≤ (x3_1 : Int) := of_decide_eq_true (by first | (with_reducible assumption) | assumption)
         have q4 : x3_1 < (a0.size : Int) := of_decide_eq_true (by first | (with_reducible assumption) | assumption)
         have hx4 := bt_at a0 x3_1
         replace p4 := eq_true p4
         replace q4 := eq_true q4
         go_wp2_with (first | (go_at_call 39; (with_reducible refine (spec_isDigit.calls (bt a0 x3_1) true _ A5.out).mono ?_); rintro e w' ⟨rfl, ⟨nd, rfl⟩⟩))
         go_roundg k1
         case measure => have := HK1.out; omega
         case rel => exact ⟨(wrap64 (x3_1 + 1)), (by first | rfl | (simp; done) | (simp [*]; done) | (simp [bne_nil_]; done)), H', ⟨by have := HK1.out; omega⟩, by repeat (first | exact Drawn0.refl _ | apply Drawn0.step)⟩
       · replace c6 := Bool.eq_false_iff.mpr c6
         subst c6
         have H1 : (some x3_1) = some r := by rw [if_neg (show ¬ (false = true) by decide)] at H; exact H
         clear H
         have H := H1
         clear H1
         obtain rfl := Option.some.inj H
         have p4 : 0 ≤ (x3_1 : Int) := of_decide_eq_true (by first | (with_reducible assumption) | assumption)
         have q4 : x3_1 < (a0.size : Int) := of_decide_eq_true (by first | (with_reducible assumption) | assumption)
         have hx4 := bt_at a0 x3_1
         replace p4 := eq_true p4
         replace q4 := eq_true q4
         go_wp2_with (first | (go_at_call 39; (with_reducible refine (spec_isDigit.calls (bt a0 x3_1) false _ A5.out).mono ?_); rintro e w' ⟨rfl, ⟨nd, rfl⟩⟩))
         go_ret
         exact ⟨by first | rfl | (simp; done) | (simp [*]; done) | (simp [bne_nil_]; done), by repeat (first | exact Drawn0.refl _ | apply Drawn0.step)⟩
     · rw [if_neg c3] at H
       exact absurd H (by simp)
   · rw [if_neg c2] at H
     have c2b0 : decide (x3_1 < (a0.size : Int)) = false := decide_eq_false c2
     clear c2
     obtain rfl := Option.some.inj H
     go_wp2
     go_ret
     exact ⟨by first | rfl | (simp; done) | (simp [*]; done) | (simp [bne_nil_]; done), by repeat (first | exact Drawn0.refl _ | apply Drawn0.step)⟩

end Go.Proofs.YtffcbcihnoaikaaDoor.QO
