-- Written by a working copy of the kit's print program, turned at a few places by wip/tool/mkprint.py. Lean checks it.
import Derived.Test.YtchbfjjeodnocaaDoorQJx0
import Derived.Test.YtchbfjjeodnocaaDoorQJx1
namespace Go.Proofs.YtchbfjjeodnocaaDoor.QJ
open Go.RowKit Go.Proofs.YtchbfjjeodnocaaDoorW.PrintWords Go.Proofs.YtchbfjjeodnocaaDoorW.PrintLast Go.Proofs.YtchbfjjeodnocaaDoorW.PrintMore
attribute [local go_sem] max2_int min2_int max_two min_two max_three min_three max_four min_four   -- for this text's walks alone
set_option linter.unusedVariables false
set_option linter.unusedSimpArgs false

/-! ### spec_Number: function 50 -/
mutual
def spec_Number.j0 : Nat → ByteArray → Bool → Bool → Option (Bool × ByteArray × Bool)
  | 0, _, _, _ => none
  | k + 1, x0, x4, x17 => if x17 = true then (if 0 < (x0.size : Int) then (if 1 ≤ (x0.size : Int) then (spec_Number.j1 k (x0.extract 1 x0.size) ((bt x0 0) == 45)) else (none)) else (none)) else (spec_Number.j1 k x0 x4)
def spec_Number.j1 : Nat → ByteArray → Bool → Option (Bool × ByteArray × Bool)
  | 0, _, _ => none
  | k + 1, x0, x4 => (spec_allDigits.f k x0).bind fun t132 => (if t132 = true then ((spec_intOf.f k x0).bind fun bt133 => (if x4 = true then (some ((bt133.2.toList != ([] : List UInt8)), bt133.2, true)) else (some (false, bt133.2, true)))) else (some (false, (⟨#[]⟩ : ByteArray), false)))
end
def spec_Number.f (k : Nat) (a0 : ByteArray) : Option (Bool × ByteArray × Bool) := if (a0.size : Int) > 0 then (if 0 < (a0.size : Int) then (if (bt a0 0) = 43 then (spec_Number.j0 k a0 false true) else (spec_Number.j0 k a0 false ((bt a0 0) == 45))) else (none)) else (spec_Number.j0 k a0 false false)
theorem spec_Number.mono_l : ∀ k, (∀ y0 y1 y2, LeO (spec_Number.j0 k y0 y1 y2) (spec_Number.j0 (k + 1) y0 y1 y2)) ∧ (∀ y0 y1, LeO (spec_Number.j1 k y0 y1) (spec_Number.j1 (k + 1) y0 y1))
  | 0 => ⟨fun _ _ _ r h => by simp [spec_Number.j0] at h, fun _ _ r h => by simp [spec_Number.j1] at h⟩
  | k + 1 => by
    obtain ⟨ih0, ih1⟩ := spec_Number.mono_l k
    refine ⟨?_, ?_⟩
    · intro y0 y1 y2
      unfold spec_Number.j0
      repeat' first
      | (with_reducible exact ih0 _ _ _)
      | (with_reducible exact ih1 _ _)
      | (with_reducible exact spec_allDigits.mono _ _)
      | (with_reducible exact spec_intOf.mono _ _)
      | (with_reducible exact LeO.refl _)
      | (with_reducible exact LeO.none _)
      | (with_reducible refine LeO.ite ?_ ?_)
      | (with_reducible refine LeO.bind ?_ (fun _ => ?_))
      | exact ih0 _ _ _
      | exact ih1 _ _
      | exact spec_allDigits.mono _ _
      | exact spec_intOf.mono _ _
      | exact LeO.none _
      | refine LeO.ite ?_ ?_
      | refine LeO.bind ?_ (fun _ => ?_)
    · intro y0 y1
      unfold spec_Number.j1
      repeat' first
      | (with_reducible exact ih0 _ _ _)
      | (with_reducible exact ih1 _ _)
      | (with_reducible exact spec_allDigits.mono _ _)
      | (with_reducible exact spec_intOf.mono _ _)
      | (with_reducible exact LeO.refl _)
      | (with_reducible exact LeO.none _)
      | (with_reducible refine LeO.ite ?_ ?_)
      | (with_reducible refine LeO.bind ?_ (fun _ => ?_))
      | exact ih0 _ _ _
      | exact ih1 _ _
      | exact spec_allDigits.mono _ _
      | exact spec_intOf.mono _ _
      | exact LeO.none _
      | refine LeO.ite ?_ ?_
      | refine LeO.bind ?_ (fun _ => ?_)
theorem spec_Number.mono : ∀ a0 k, LeO (spec_Number.f k a0) (spec_Number.f (k + 1) a0) := by
  intro a0 k
  obtain ⟨ih0, ih1⟩ := spec_Number.mono_l k
  unfold spec_Number.f
  repeat' first
      | (with_reducible exact ih0 _ _ _)
      | (with_reducible exact ih1 _ _)
      | (with_reducible exact spec_allDigits.mono _ _)
      | (with_reducible exact spec_intOf.mono _ _)
      | (with_reducible exact LeO.refl _)
      | (with_reducible exact LeO.none _)
      | (with_reducible refine LeO.ite ?_ ?_)
      | (with_reducible refine LeO.bind ?_ (fun _ => ?_))
      | exact ih0 _ _ _
      | exact ih1 _ _
      | exact spec_allDigits.mono _ _
      | exact spec_intOf.mono _ _
      | exact LeO.none _
      | refine LeO.ite ?_ ?_
      | refine LeO.bind ?_ (fun _ => ?_)
set_option maxHeartbeats 8000000 in
set_option maxRecDepth 100000 in
theorem spec_Number.calls (k : Nat) (a0 : ByteArray) (r1 : Bool) (r2 : ByteArray) (r3 : Bool) (w : World) (h : spec_Number.f k a0 = some (r1, r2, r3)) :
    Calls Tryd.prog 50 #[.string a0] w fun e w' => e = .returned (.tuple #[.agg #[.bool r1, .string r2], .bool r3]) ∧ Below w.heap.size w w' := by
  have hu43 := Tryd.underlying43
  have HB := Aside0.mk (Below.refl w.heap.size w)
  have H : (if (a0.size : Int) > 0 then (if 0 < (a0.size : Int) then (if (bt a0 0) = 43 then (spec_Number.j0 k a0 false true) else (spec_Number.j0 k a0 false ((bt a0 0) == 45))) else (none)) else (spec_Number.j0 k a0 false false)) = some (r1, r2, r3) := h
  clear h
  have HC2 := Aside0.mk H
  clear H
  go_enter Tryd.func50, Tryd.ntmps50
  go_upto_region 2 with (first | ((with_reducible refine gate_dst (N := 2) rfl ?_); refine box_event ?hg (N := 2) ?hd (cs := #[.bool false, .string (⟨#[]⟩ : ByteArray)]) (t := 43) ?hr ?_; (case hd => rfl); (case hg => rfl); (case hr => first | (go_simp; done) | (go_simp; rfl)); intro gb131 hg w3 hbox hb; have n0_ := Aside0.mk (below_step (by repeat (first | (with_reducible first | exact HB.out | apply below_alloc | apply pw_below_drewN | apply below_drew1) | exact HB.out)) hb); have n1_ := Aside0.mk (hbox); have n2_ := Aside0.mk ((by rw [hg]; exact (below_size (by repeat (first | (with_reducible first | exact HB.out | apply below_alloc | apply pw_below_drewN | apply below_drew1) | exact HB.out))) : w.heap.size ≤ gb131)); have n3_ := Aside0.mk ((by rw [hg]; exact (below_size (by repeat (first | (with_reducible first | exact HB.out | apply below_alloc | apply pw_below_drewN | apply below_drew1) | exact HB.out))) : w.heap.size ≤ gb131)); clear HB; have HB := n0_; have BK131 := n1_; have GW131 := n2_; have GE131 := n3_; clear n0_ n1_ n2_ n3_; clear hb hbox hg))
  repeat (go_quiet (first | ((with_reducible refine gate_dst (N := 2) rfl ?_); refine box_event ?hg (N := 2) ?hd (cs := #[.bool false, .string (⟨#[]⟩ : ByteArray)]) (t := 43) ?hr ?_; (case hd => rfl); (case hg => rfl); (case hr => first | (go_simp; done) | (go_simp; rfl)); intro gb131 hg w3 hbox hb; have n0_ := Aside0.mk (below_step (by repeat (first | (with_reducible first | exact HB.out | apply below_alloc | apply pw_below_drewN | apply below_drew1) | exact HB.out)) hb); have n1_ := Aside0.mk (hbox); have n2_ := Aside0.mk ((by rw [hg]; exact (below_size (by repeat (first | (with_reducible first | exact HB.out | apply below_alloc | apply pw_below_drewN | apply below_drew1) | exact HB.out))) : w.heap.size ≤ gb131)); have n3_ := Aside0.mk ((by rw [hg]; exact (below_size (by repeat (first | (with_reducible first | exact HB.out | apply below_alloc | apply pw_below_drewN | apply below_drew1) | exact HB.out))) : w.heap.size ≤ gb131)); clear HB; have HB := n0_; have BK131 := n1_; have GW131 := n2_; have GE131 := n3_; clear n0_ n1_ n2_ n3_; clear hb hbox hg)); go_upto_region 2 with (first | ((with_reducible refine gate_dst (N := 2) rfl ?_); refine box_event ?hg (N := 2) ?hd (cs := #[.bool false, .string (⟨#[]⟩ : ByteArray)]) (t := 43) ?hr ?_; (case hd => rfl); (case hg => rfl); (case hr => first | (go_simp; done) | (go_simp; rfl)); intro gb131 hg w3 hbox hb; have n0_ := Aside0.mk (below_step (by repeat (first | (with_reducible first | exact HB.out | apply below_alloc | apply pw_below_drewN | apply below_drew1) | exact HB.out)) hb); have n1_ := Aside0.mk (hbox); have n2_ := Aside0.mk ((by rw [hg]; exact (below_size (by repeat (first | (with_reducible first | exact HB.out | apply below_alloc | apply pw_below_drewN | apply below_drew1) | exact HB.out))) : w.heap.size ≤ gb131)); have n3_ := Aside0.mk ((by rw [hg]; exact (below_size (by repeat (first | (with_reducible first | exact HB.out | apply below_alloc | apply pw_below_drewN | apply below_drew1) | exact HB.out))) : w.heap.size ≤ gb131)); clear HB; have HB := n0_; have BK131 := n1_; have GW131 := n2_; have GE131 := n3_; clear n0_ n1_ n2_ n3_; clear hb hbox hg)))
  (try simp only [Act.put, List.setIfInBounds_toArray, List.set_cons_zero, List.set_cons_succ])
  go_cut [17] (fun v17 wc => ∃ (kq : Nat) (x17_1 : Bool), v17 = .bool x17_1 ∧ Aside0 (spec_Number.j0 kq a0 false x17_1 = some (r1, r2, r3)) ∧ Aside0 (kq ≤ k) ∧ Aside0 (wc.heap[gb131]? = some (.cells #[.bool false, .string (⟨#[]⟩ : ByteArray)] 43 (0, 0))) ∧ Aside0 (Below w.heap.size w wc))
  case first =>
    have H := HC2.out
    clear HC2
    by_cases c4 : (a0.size : Int) > 0
    · rw [if_pos c4] at H
      have c4b0 : decide (0 < (a0.size : Int)) = true := decide_eq_true c4
      have c4b1 : decide (0 < a0.size) = true := decide_eq_true (by omega)
      clear c4
      (first | rw [c4b0] | (simp only [i64_w, i32_w]; rw [c4b0]) | skip)
      by_cases c5 : 0 < (a0.size : Int)
      · rw [if_pos c5] at H
        have c5b0 : decide (0 < (a0.size : Int)) = true := decide_eq_true c5
        have c5b1 : decide (0 < a0.size) = true := decide_eq_true (by omega)
        clear c5
        by_cases c7 : (bt a0 0) = 43
        · rw [if_pos c7] at H
          have c7b0 : ((bt a0 0) == 43) = true := beq_iff_eq.mpr c7
          have c7b1 : ((bt a0 0) != 43) = false := bne_eq_false_iff_eq.mpr c7
          clear c7
          have H' := Aside0.mk H
          clear H
          have p6 : 0 ≤ (0 : Int) := (by omega)
          have q6 : 0 < a0.size := (by have : (0 : Int) < (a0.size : Int) := of_decide_eq_true (by first | (with_reducible assumption) | assumption); omega)
          have hx6 : ∀ h : 0 < a0.size, ((a0[0]'h).toNat : Int) = bt a0 0 := bt_at a0 0
          clear p6
          have qi6 : (0 < (a0.size : Int)) = True := eq_true (of_decide_eq_true (by first | (with_reducible assumption) | assumption))
          replace q6 := eq_true q6
          go_wp2
          repeat (go_quiet (fail); try go_wp2)
          go_meet
          case rel => exact ⟨_, (true), (by first | rfl | (simp; done) | (simp [*]; done) | (simp [bne_nil_]; done)), H', ⟨by first | omega | exact Nat.le_refl _⟩, ⟨by (with_reducible repeat (first | refine blk_drewN ?_ _ | refine blk_drew ?_ | refine blk_alloc ?_ _)); exact BK131.out⟩, ⟨by repeat (first | (with_reducible first | exact HB.out | apply below_alloc | apply pw_below_drewN | apply below_drew1 | refine below_set ?_ GE131.out) | exact HB.out)⟩⟩
        · rw [if_neg c7] at H
          have c7b0 : ((bt a0 0) == 43) = false := beq_eq_false_iff_ne.mpr c7
          have c7b1 : ((bt a0 0) != 43) = true := bne_iff_ne.mpr c7
          have H' := Aside0.mk H
          clear H
          have p6 : 0 ≤ (0 : Int) := (by omega)
          have q6 : 0 < a0.size := (by have : (0 : Int) < (a0.size : Int) := of_decide_eq_true (by first | (with_reducible assumption) | assumption); omega)
          have hx6 : ∀ h : 0 < a0.size, ((a0[0]'h).toNat : Int) = bt a0 0 := bt_at a0 0
          clear p6
          have qi6 : (0 < (a0.size : Int)) = True := eq_true (of_decide_eq_true (by first | (with_reducible assumption) | assumption))
          replace q6 := eq_true q6
          have p8 : 0 ≤ (0 : Int) := (by omega)
          have q8 : 0 < a0.size := (by have : (0 : Int) < (a0.size : Int) := of_decide_eq_true (by first | (with_reducible assumption) | assumption); omega)
          have hx8 : ∀ h : 0 < a0.size, ((a0[0]'h).toNat : Int) = bt a0 0 := bt_at a0 0
          clear p8
          have qi8 : (0 < (a0.size : Int)) = True := eq_true (of_decide_eq_true (by first | (with_reducible assumption) | assumption))
          replace q8 := eq_true q8
          go_wp2
          repeat (go_quiet (fail); try go_wp2)
          go_meet
          case rel => exact ⟨_, (((bt a0 0) == 45)), (by first | rfl | (simp; done) | (simp [*]; done) | (simp [bne_nil_]; done)), H', ⟨by first | omega | exact Nat.le_refl _⟩, ⟨by (with_reducible repeat (first | refine blk_drewN ?_ _ | refine blk_drew ?_ | refine blk_alloc ?_ _)); exact BK131.out⟩, ⟨by repeat (first | (with_reducible first | exact HB.out | apply below_alloc | apply pw_below_drewN | apply below_drew1 | refine below_set ?_ GE131.out) | exact HB.out)⟩⟩
      · rw [if_neg c5] at H
        exact absurd H (by simp)
    · rw [if_neg c4] at H
      have c4b0 : decide (0 < (a0.size : Int)) = false := decide_eq_false c4
      have c4b1 : decide (0 < a0.size) = false := decide_eq_false (by omega)
      clear c4
      (first | rw [c4b0] | (simp only [i64_w, i32_w]; rw [c4b0]) | skip)
      have H' := Aside0.mk H
      clear H
      go_wp2
      repeat (go_quiet (fail); try go_wp2)
      go_meet
      case rel => exact ⟨_, (false), (by first | rfl | (simp; done) | (simp [*]; done) | (simp [bne_nil_]; done)), H', ⟨by first | omega | exact Nat.le_refl _⟩, ⟨by (with_reducible repeat (first | refine blk_drewN ?_ _ | refine blk_drew ?_ | refine blk_alloc ?_ _)); exact BK131.out⟩, ⟨by repeat (first | (with_reducible first | exact HB.out | apply below_alloc | apply pw_below_drewN | apply below_drew1 | refine below_set ?_ GE131.out) | exact HB.out)⟩⟩
  case rest =>
    clear HC2
    try clear p2
    try clear c4
    try clear c4b0
    try clear c4b1
    try clear c5
    try clear c5b0
    try clear c5b1
    try clear p6
    try clear q6
    try clear hx6
    try clear qi6
    try clear c7
    try clear c7b0
    try clear c7b1
    try clear p8
    try clear q8
    try clear hx8
    try clear qi8
    try clear p6
    try clear p8
    try clear q6
    try clear q8
    obtain ⟨kq, x17_1, rfl, HA, HJ1, BK131, HB⟩ := hcut
    cases kq with
    | zero => exact absurd HA.out (by simp [spec_Number.j0])
    | succ kj1 =>
      have H := HA.out
      clear HA
      simp only [spec_Number.j0] at H
      have HC9 := Aside0.mk H
      clear H
      go_upto_if 17 with (fail)
      repeat (go_quiet (fail); go_upto_if 17 with (fail))
      go_cut [0, 4] (fun v0 v4 wc => ∃ (kq : Nat) (x0_8 : ByteArray) (x4_8 : Bool), v0 = .string x0_8 ∧ v4 = .bool x4_8 ∧ Aside0 (spec_Number.j1 kq x0_8 x4_8 = some (r1, r2, r3)) ∧ Aside0 (kq ≤ kj1) ∧ Aside0 (wc.heap[gb131]? = some (.cells #[.bool false, .string (⟨#[]⟩ : ByteArray)] 43 (0, 0))) ∧ Aside0 (Below w.heap.size w wc))
      case first =>
        have H := HC9.out
        clear HC9
        by_cases c10 : x17_1 = true
        · subst c10
          have H1 : (if 0 < (a0.size : Int) then (if 1 ≤ (a0.size : Int) then (spec_Number.j1 kj1 (a0.extract 1 a0.size) ((bt a0 0) == 45)) else (none)) else (none)) = some (r1, r2, r3) := by rw [if_pos rfl] at H; exact H
          clear H
          have H := H1
          clear H1
          by_cases c11 : 0 < (a0.size : Int)
          · rw [if_pos c11] at H
            have c11b0 : decide (0 < (a0.size : Int)) = true := decide_eq_true c11
            have c11b1 : decide (0 < a0.size) = true := decide_eq_true (by omega)
            clear c11
            (first | rw [c11b0] | (simp only [i64_w, i32_w]; rw [c11b0]) | skip)
            by_cases c13 : 1 ≤ (a0.size : Int)
            · rw [if_pos c13] at H
              have c13b0 := eq_true c13
              have c13b1 : decide (1 ≤ (a0.size : Int)) = true := decide_eq_true c13
              clear c13
              have H' := Aside0.mk H
              clear H
              have p12 : 0 ≤ (0 : Int) := (by omega)
              have q12 : 0 < a0.size := (by have : (0 : Int) < (a0.size : Int) := of_decide_eq_true (by first | (with_reducible assumption) | assumption); omega)
              have hx12 : ∀ h : 0 < a0.size, ((a0[0]'h).toNat : Int) = bt a0 0 := bt_at a0 0
              clear p12
              have qi12 : (0 < (a0.size : Int)) = True := eq_true (of_decide_eq_true (by first | (with_reducible assumption) | assumption))
              replace q12 := eq_true q12
              go_wp2
              repeat (go_quiet (fail); try go_wp2)
              go_meet
              case rel => exact ⟨_, (a0.extract 1 a0.size), (((bt a0 0) == 45)), (by first | rfl | (simp; done) | (simp [*]; done) | (simp [bne_nil_]; done)), (by first | rfl | (simp; done) | (simp [*]; done) | (simp [bne_nil_]; done)), H', ⟨by have := HJ1.out; first | omega | exact Nat.le_refl _⟩, ⟨by (with_reducible repeat (first | refine blk_drewN ?_ _ | refine blk_drew ?_ | refine blk_alloc ?_ _)); exact BK131.out⟩, ⟨by repeat (first | (with_reducible first | exact HB.out | apply below_alloc | apply pw_below_drewN | apply below_drew1 | refine below_set ?_ GE131.out) | exact HB.out)⟩⟩
            · rw [if_neg c13] at H
              exact absurd H (by simp)
          · rw [if_neg c11] at H
            exact absurd H (by simp)
        · replace c10 := Bool.eq_false_iff.mpr c10
          subst c10
          have H1 : (spec_Number.j1 kj1 a0 false) = some (r1, r2, r3) := by rw [if_neg (show ¬ (false = true) by decide)] at H; exact H
          clear H
          have H := H1
          clear H1
          have H' := Aside0.mk H
          clear H
          go_wp2
          repeat (go_quiet (fail); try go_wp2)
          go_meet
          case rel => exact ⟨_, (a0), (false), (by first | rfl | (simp; done) | (simp [*]; done) | (simp [bne_nil_]; done)), (by first | rfl | (simp; done) | (simp [*]; done) | (simp [bne_nil_]; done)), H', ⟨by have := HJ1.out; first | omega | exact Nat.le_refl _⟩, ⟨by (with_reducible repeat (first | refine blk_drewN ?_ _ | refine blk_drew ?_ | refine blk_alloc ?_ _)); exact BK131.out⟩, ⟨by repeat (first | (with_reducible first | exact HB.out | apply below_alloc | apply pw_below_drewN | apply below_drew1 | refine below_set ?_ GE131.out) | exact HB.out)⟩⟩
      case rest =>
        clear HC9
        try clear c1
        try clear p1
        try clear q1
        try clear hx1
        try clear qi1
        try clear p2
        try clear c4
        try clear c4b0
        try clear c4b1
        try clear c5
        try clear c5b0
        try clear c5b1
        try clear p6
        try clear q6
        try clear hx6
        try clear qi6
        try clear c7
        try clear c7b0
        try clear c7b1
        try clear p8
        try clear q8
        try clear hx8
        try clear qi8
        try clear c10
        try clear c11
        try clear c11b0
        try clear c11b1
        try clear p12
        try clear q12
        try clear hx12
        try clear qi12
        try clear c13
        try clear c13b0
        try clear c13b1
        try clear p12
        try clear p2
        try clear p6
        try clear p8
        try clear q12
        try clear q6
        try clear q8
        obtain ⟨kq, x0_8, x4_8, rfl, rfl, HA, HJ8, BK131, HB⟩ := hcut
        cases kq with
        | zero => exact absurd HA.out (by simp [spec_Number.j1])
        | succ kj8 =>
          have H := HA.out
          clear HA
          simp only [spec_Number.j1] at H
          replace H := Option.bind_eq_some_iff.mp H
          obtain ⟨t132, A140, H⟩ := H
          replace H : (if t132 = true then ((spec_intOf.f kj8 x0_8).bind fun bt133 => (if x4_8 = true then (some ((bt133.2.toList != ([] : List UInt8)), bt133.2, true)) else (some (false, bt133.2, true)))) else (some (false, (⟨#[]⟩ : ByteArray), false))) = some (r1, r2, r3) := H
          have A14 := Aside0.mk A140
          clear A140
          by_cases c15 : t132 = true
          · subst c15
            have H1 : ((spec_intOf.f kj8 x0_8).bind fun bt133 => (if x4_8 = true then (some ((bt133.2.toList != ([] : List UInt8)), bt133.2, true)) else (some (false, bt133.2, true)))) = some (r1, r2, r3) := by rw [if_pos rfl] at H; exact H
            clear H
            have H := H1
            clear H1
            replace H := Option.bind_eq_some_iff.mp H
            obtain ⟨⟨t133, t134⟩, A160, H⟩ := H
            replace H : (if x4_8 = true then (some ((t134.toList != ([] : List UInt8)), t134, true)) else (some (false, t134, true))) = some (r1, r2, r3) := H
            have A16 := Aside0.mk A160
            clear A160
            by_cases c17 : x4_8 = true
            · subst c17
              have H1 : (some ((t134.toList != ([] : List UInt8)), t134, true)) = some (r1, r2, r3) := by rw [if_pos rfl] at H; exact H
              clear H
              have H := H1
              clear H1
              simp only [Option.some.injEq, Prod.mk.injEq] at H
              obtain ⟨rfl, rfl, rfl⟩ := H
              go_wp2_with (first | (go_at_call 58; (with_reducible refine (spec_allDigits.calls kj8 x0_8 true _ A14.out).mono ?_); rintro e w' ⟨rfl, ⟨nd, rfl⟩⟩; (try first | exact ⟨rfl, _, World.drewN_drewN _ _ _⟩ | exact ⟨rfl, _, Eq.trans (World.drewN_drewN _ _ _) (congrArg (World.drewN _) (Nat.add_assoc _ _ _))⟩)) | (go_at_call 83; (with_reducible refine (spec_intOf.calls kj8 x0_8 t133 t134 _ A16.out).mono ?_); rintro e w18 ⟨rfl, hb⟩; have n0_ := Aside0.mk (blk_below (g := gb131) (o := .cells #[.bool false, .string (⟨#[]⟩ : ByteArray)] 43 (0, 0)) (by (with_reducible repeat (first | refine blk_drewN ?_ _ | refine blk_drew ?_ | refine blk_alloc ?_ _)); exact BK131.out) hb); have n1_ := Aside0.mk (below_step (by repeat (first | (with_reducible first | exact HB.out | apply below_alloc | apply pw_below_drewN | apply below_drew1 | refine below_set ?_ GE131.out) | exact HB.out)) hb); clear BK131; clear HB; have BK131 := n0_; have HB := n1_; clear n0_ n1_; (try clear hb); (try clear hb2); (try clear hk); (try clear hi); have hcz19_0 : w18.cell? ⟨gb131, 0, none⟩ = some (.bool false) := (blk_cell BK131.out 0).trans rfl; have hcz19_1 : w18.cell? ⟨gb131, 1, none⟩ = some (.string (⟨#[]⟩ : ByteArray)) := (blk_cell BK131.out 1).trans rfl; have hfz19_0 := blk_frozen BK131.out 0; have hfz19_1 := blk_frozen BK131.out 1))
              repeat (go_quiet (first | (go_at_call 58; (with_reducible refine (spec_allDigits.calls kj8 x0_8 true _ A14.out).mono ?_); rintro e w' ⟨rfl, ⟨nd, rfl⟩⟩; (try first | exact ⟨rfl, _, World.drewN_drewN _ _ _⟩ | exact ⟨rfl, _, Eq.trans (World.drewN_drewN _ _ _) (congrArg (World.drewN _) (Nat.add_assoc _ _ _))⟩)) | (go_at_call 83; (with_reducible refine (spec_intOf.calls kj8 x0_8 t133 t134 _ A16.out).mono ?_); rintro e w18 ⟨rfl, hb⟩; have n0_ := Aside0.mk (blk_below (g := gb131) (o := .cells #[.bool false, .string (⟨#[]⟩ : ByteArray)] 43 (0, 0)) (by (with_reducible repeat (first | refine blk_drewN ?_ _ | refine blk_drew ?_ | refine blk_alloc ?_ _)); exact BK131.out) hb); have n1_ := Aside0.mk (below_step (by repeat (first | (with_reducible first | exact HB.out | apply below_alloc | apply pw_below_drewN | apply below_drew1 | refine below_set ?_ GE131.out) | exact HB.out)) hb); clear BK131; clear HB; have BK131 := n0_; have HB := n1_; clear n0_ n1_; (try clear hb); (try clear hb2); (try clear hk); (try clear hi); have hcz19_0 : w18.cell? ⟨gb131, 0, none⟩ = some (.bool false) := (blk_cell BK131.out 0).trans rfl; have hcz19_1 : w18.cell? ⟨gb131, 1, none⟩ = some (.string (⟨#[]⟩ : ByteArray)) := (blk_cell BK131.out 1).trans rfl; have hfz19_0 := blk_frozen BK131.out 0; have hfz19_1 := blk_frozen BK131.out 1)); try go_wp2_with (first | (go_at_call 58; (with_reducible refine (spec_allDigits.calls kj8 x0_8 true _ A14.out).mono ?_); rintro e w' ⟨rfl, ⟨nd, rfl⟩⟩; (try first | exact ⟨rfl, _, World.drewN_drewN _ _ _⟩ | exact ⟨rfl, _, Eq.trans (World.drewN_drewN _ _ _) (congrArg (World.drewN _) (Nat.add_assoc _ _ _))⟩)) | (go_at_call 83; (with_reducible refine (spec_intOf.calls kj8 x0_8 t133 t134 _ A16.out).mono ?_); rintro e w18 ⟨rfl, hb⟩; have n0_ := Aside0.mk (blk_below (g := gb131) (o := .cells #[.bool false, .string (⟨#[]⟩ : ByteArray)] 43 (0, 0)) (by (with_reducible repeat (first | refine blk_drewN ?_ _ | refine blk_drew ?_ | refine blk_alloc ?_ _)); exact BK131.out) hb); have n1_ := Aside0.mk (below_step (by repeat (first | (with_reducible first | exact HB.out | apply below_alloc | apply pw_below_drewN | apply below_drew1 | refine below_set ?_ GE131.out) | exact HB.out)) hb); clear BK131; clear HB; have BK131 := n0_; have HB := n1_; clear n0_ n1_; (try clear hb); (try clear hb2); (try clear hk); (try clear hi); have hcz19_0 : w18.cell? ⟨gb131, 0, none⟩ = some (.bool false) := (blk_cell BK131.out 0).trans rfl; have hcz19_1 : w18.cell? ⟨gb131, 1, none⟩ = some (.string (⟨#[]⟩ : ByteArray)) := (blk_cell BK131.out 1).trans rfl; have hfz19_0 := blk_frozen BK131.out 0; have hfz19_1 := blk_frozen BK131.out 1)))
              refine bodyPost_ret (results_ct rfl _ _ gb131 43 #[.bool (t134.toList != ([] : List UInt8)), .string t134] (0, 0) _ rfl (by (with_reducible repeat (first | refine blk_drewN ?_ _ | refine blk_drew ?_ | refine blk_alloc ?_ _)); refine blk_put (cs := #[.bool (t134.toList != ([] : List UInt8)), .string t134]) ?_ 1 _ (by first | rfl | simp [bne_nil_]); (with_reducible repeat (first | refine blk_drewN ?_ _ | refine blk_drew ?_ | refine blk_alloc ?_ _)); refine blk_put (cs := #[.bool (t134.toList != ([] : List UInt8)), .string t134]) ?_ 0 _ (by first | rfl | simp [bne_nil_]); (with_reducible repeat (first | refine blk_drewN ?_ _ | refine blk_drew ?_ | refine blk_alloc ?_ _)); refine blk_put (cs := #[.bool t133, .string t134]) ?_ 0 _ (by first | rfl | simp [bne_nil_]); (with_reducible repeat (first | refine blk_drewN ?_ _ | refine blk_drew ?_ | refine blk_alloc ?_ _)); refine blk_put (cs := #[.bool t133, .string (⟨#[]⟩ : ByteArray)]) ?_ 1 _ (by first | rfl | simp [bne_nil_]); (with_reducible repeat (first | refine blk_drewN ?_ _ | refine blk_drew ?_ | refine blk_alloc ?_ _)); refine blk_put (cs := #[.bool false, .string (⟨#[]⟩ : ByteArray)]) ?_ 0 _ (by first | rfl | simp [bne_nil_]); (with_reducible repeat (first | refine blk_drewN ?_ _ | refine blk_drew ?_ | refine blk_alloc ?_ _)); exact BK131.out) Tryd.underlying43 rfl (by kernel_rfl)) rfl ?_
              exact ⟨by first | rfl | (simp [errW_none, errW_some] <;> rfl) | (simp [*, errW_none, errW_some] <;> rfl) | (simp [bne_nil_]; done), by repeat (first | (with_reducible first | exact HB.out | apply below_alloc | apply pw_below_drewN | apply below_drew1 | refine below_set ?_ GE131.out) | exact HB.out)⟩
            · replace c17 := Bool.eq_false_iff.mpr c17
              subst c17
              have H1 : (some (false, t134, true)) = some (r1, r2, r3) := by rw [if_neg (show ¬ (false = true) by decide)] at H; exact H
              clear H
              have H := H1
              clear H1
              simp only [Option.some.injEq, Prod.mk.injEq] at H
              obtain ⟨rfl, rfl, rfl⟩ := H
              go_wp2_with (first | (go_at_call 58; (with_reducible refine (spec_allDigits.calls kj8 x0_8 true _ A14.out).mono ?_); rintro e w' ⟨rfl, ⟨nd, rfl⟩⟩; (try first | exact ⟨rfl, _, World.drewN_drewN _ _ _⟩ | exact ⟨rfl, _, Eq.trans (World.drewN_drewN _ _ _) (congrArg (World.drewN _) (Nat.add_assoc _ _ _))⟩)) | (go_at_call 83; (with_reducible refine (spec_intOf.calls kj8 x0_8 t133 t134 _ A16.out).mono ?_); rintro e w20 ⟨rfl, hb⟩; have n0_ := Aside0.mk (blk_below (g := gb131) (o := .cells #[.bool false, .string (⟨#[]⟩ : ByteArray)] 43 (0, 0)) (by (with_reducible repeat (first | refine blk_drewN ?_ _ | refine blk_drew ?_ | refine blk_alloc ?_ _)); exact BK131.out) hb); have n1_ := Aside0.mk (below_step (by repeat (first | (with_reducible first | exact HB.out | apply below_alloc | apply pw_below_drewN | apply below_drew1 | refine below_set ?_ GE131.out) | exact HB.out)) hb); clear BK131; clear HB; have BK131 := n0_; have HB := n1_; clear n0_ n1_; (try clear hb); (try clear hb2); (try clear hk); (try clear hi); have hcz21_0 : w20.cell? ⟨gb131, 0, none⟩ = some (.bool false) := (blk_cell BK131.out 0).trans rfl; have hcz21_1 : w20.cell? ⟨gb131, 1, none⟩ = some (.string (⟨#[]⟩ : ByteArray)) := (blk_cell BK131.out 1).trans rfl; have hfz21_0 := blk_frozen BK131.out 0; have hfz21_1 := blk_frozen BK131.out 1))
              repeat (go_quiet (first | (go_at_call 58; (with_reducible refine (spec_allDigits.calls kj8 x0_8 true _ A14.out).mono ?_); rintro e w' ⟨rfl, ⟨nd, rfl⟩⟩; (try first | exact ⟨rfl, _, World.drewN_drewN _ _ _⟩ | exact ⟨rfl, _, Eq.trans (World.drewN_drewN _ _ _) (congrArg (World.drewN _) (Nat.add_assoc _ _ _))⟩)) | (go_at_call 83; (with_reducible refine (spec_intOf.calls kj8 x0_8 t133 t134 _ A16.out).mono ?_); rintro e w20 ⟨rfl, hb⟩; have n0_ := Aside0.mk (blk_below (g := gb131) (o := .cells #[.bool false, .string (⟨#[]⟩ : ByteArray)] 43 (0, 0)) (by (with_reducible repeat (first | refine blk_drewN ?_ _ | refine blk_drew ?_ | refine blk_alloc ?_ _)); exact BK131.out) hb); have n1_ := Aside0.mk (below_step (by repeat (first | (with_reducible first | exact HB.out | apply below_alloc | apply pw_below_drewN | apply below_drew1 | refine below_set ?_ GE131.out) | exact HB.out)) hb); clear BK131; clear HB; have BK131 := n0_; have HB := n1_; clear n0_ n1_; (try clear hb); (try clear hb2); (try clear hk); (try clear hi); have hcz21_0 : w20.cell? ⟨gb131, 0, none⟩ = some (.bool false) := (blk_cell BK131.out 0).trans rfl; have hcz21_1 : w20.cell? ⟨gb131, 1, none⟩ = some (.string (⟨#[]⟩ : ByteArray)) := (blk_cell BK131.out 1).trans rfl; have hfz21_0 := blk_frozen BK131.out 0; have hfz21_1 := blk_frozen BK131.out 1)); try go_wp2_with (first | (go_at_call 58; (with_reducible refine (spec_allDigits.calls kj8 x0_8 true _ A14.out).mono ?_); rintro e w' ⟨rfl, ⟨nd, rfl⟩⟩; (try first | exact ⟨rfl, _, World.drewN_drewN _ _ _⟩ | exact ⟨rfl, _, Eq.trans (World.drewN_drewN _ _ _) (congrArg (World.drewN _) (Nat.add_assoc _ _ _))⟩)) | (go_at_call 83; (with_reducible refine (spec_intOf.calls kj8 x0_8 t133 t134 _ A16.out).mono ?_); rintro e w20 ⟨rfl, hb⟩; have n0_ := Aside0.mk (blk_below (g := gb131) (o := .cells #[.bool false, .string (⟨#[]⟩ : ByteArray)] 43 (0, 0)) (by (with_reducible repeat (first | refine blk_drewN ?_ _ | refine blk_drew ?_ | refine blk_alloc ?_ _)); exact BK131.out) hb); have n1_ := Aside0.mk (below_step (by repeat (first | (with_reducible first | exact HB.out | apply below_alloc | apply pw_below_drewN | apply below_drew1 | refine below_set ?_ GE131.out) | exact HB.out)) hb); clear BK131; clear HB; have BK131 := n0_; have HB := n1_; clear n0_ n1_; (try clear hb); (try clear hb2); (try clear hk); (try clear hi); have hcz21_0 : w20.cell? ⟨gb131, 0, none⟩ = some (.bool false) := (blk_cell BK131.out 0).trans rfl; have hcz21_1 : w20.cell? ⟨gb131, 1, none⟩ = some (.string (⟨#[]⟩ : ByteArray)) := (blk_cell BK131.out 1).trans rfl; have hfz21_0 := blk_frozen BK131.out 0; have hfz21_1 := blk_frozen BK131.out 1)))
              refine bodyPost_ret (results_ct rfl _ _ gb131 43 #[.bool false, .string t134] (0, 0) _ rfl (by (with_reducible repeat (first | refine blk_drewN ?_ _ | refine blk_drew ?_ | refine blk_alloc ?_ _)); refine blk_put (cs := #[.bool false, .string t134]) ?_ 1 _ rfl; (with_reducible repeat (first | refine blk_drewN ?_ _ | refine blk_drew ?_ | refine blk_alloc ?_ _)); refine blk_put (cs := #[.bool false, .string t134]) ?_ 0 _ rfl; (with_reducible repeat (first | refine blk_drewN ?_ _ | refine blk_drew ?_ | refine blk_alloc ?_ _)); refine blk_put (cs := #[.bool t133, .string t134]) ?_ 0 _ rfl; (with_reducible repeat (first | refine blk_drewN ?_ _ | refine blk_drew ?_ | refine blk_alloc ?_ _)); refine blk_put (cs := #[.bool t133, .string (⟨#[]⟩ : ByteArray)]) ?_ 1 _ rfl; (with_reducible repeat (first | refine blk_drewN ?_ _ | refine blk_drew ?_ | refine blk_alloc ?_ _)); refine blk_put (cs := #[.bool false, .string (⟨#[]⟩ : ByteArray)]) ?_ 0 _ rfl; (with_reducible repeat (first | refine blk_drewN ?_ _ | refine blk_drew ?_ | refine blk_alloc ?_ _)); exact BK131.out) Tryd.underlying43 rfl (by kernel_rfl)) rfl ?_
              exact ⟨by first | rfl | (simp [errW_none, errW_some] <;> rfl) | (simp [*, errW_none, errW_some] <;> rfl) | (simp [bne_nil_]; done), by repeat (first | (with_reducible first | exact HB.out | apply below_alloc | apply pw_below_drewN | apply below_drew1 | refine below_set ?_ GE131.out) | exact HB.out)⟩
          · replace c15 := Bool.eq_false_iff.mpr c15
            subst c15
            have H1 : (some (false, (⟨#[]⟩ : ByteArray), false)) = some (r1, r2, r3) := by rw [if_neg (show ¬ (false = true) by decide)] at H; exact H
            clear H
            have H := H1
            clear H1
            simp only [Option.some.injEq, Prod.mk.injEq] at H
            obtain ⟨rfl, rfl, rfl⟩ := H
            go_wp2_with (first | (go_at_call 58; (with_reducible refine (spec_allDigits.calls kj8 x0_8 false _ A14.out).mono ?_); rintro e w' ⟨rfl, ⟨nd, rfl⟩⟩; (try first | exact ⟨rfl, _, World.drewN_drewN _ _ _⟩ | exact ⟨rfl, _, Eq.trans (World.drewN_drewN _ _ _) (congrArg (World.drewN _) (Nat.add_assoc _ _ _))⟩); have hcz22_0 : wc.cell? ⟨gb131, 0, none⟩ = some (.bool false) := (blk_cell BK131.out 0).trans rfl; have hcz22_1 : wc.cell? ⟨gb131, 1, none⟩ = some (.string (⟨#[]⟩ : ByteArray)) := (blk_cell BK131.out 1).trans rfl; have hfz22_0 := blk_frozen BK131.out 0; have hfz22_1 := blk_frozen BK131.out 1))
            repeat (go_quiet (first | (go_at_call 58; (with_reducible refine (spec_allDigits.calls kj8 x0_8 false _ A14.out).mono ?_); rintro e w' ⟨rfl, ⟨nd, rfl⟩⟩; (try first | exact ⟨rfl, _, World.drewN_drewN _ _ _⟩ | exact ⟨rfl, _, Eq.trans (World.drewN_drewN _ _ _) (congrArg (World.drewN _) (Nat.add_assoc _ _ _))⟩); have hcz22_0 : wc.cell? ⟨gb131, 0, none⟩ = some (.bool false) := (blk_cell BK131.out 0).trans rfl; have hcz22_1 : wc.cell? ⟨gb131, 1, none⟩ = some (.string (⟨#[]⟩ : ByteArray)) := (blk_cell BK131.out 1).trans rfl; have hfz22_0 := blk_frozen BK131.out 0; have hfz22_1 := blk_frozen BK131.out 1)); try go_wp2_with (first | (go_at_call 58; (with_reducible refine (spec_allDigits.calls kj8 x0_8 false _ A14.out).mono ?_); rintro e w' ⟨rfl, ⟨nd, rfl⟩⟩; (try first | exact ⟨rfl, _, World.drewN_drewN _ _ _⟩ | exact ⟨rfl, _, Eq.trans (World.drewN_drewN _ _ _) (congrArg (World.drewN _) (Nat.add_assoc _ _ _))⟩); have hcz22_0 : wc.cell? ⟨gb131, 0, none⟩ = some (.bool false) := (blk_cell BK131.out 0).trans rfl; have hcz22_1 : wc.cell? ⟨gb131, 1, none⟩ = some (.string (⟨#[]⟩ : ByteArray)) := (blk_cell BK131.out 1).trans rfl; have hfz22_0 := blk_frozen BK131.out 0; have hfz22_1 := blk_frozen BK131.out 1)))
            refine bodyPost_ret (results_ct rfl _ _ gb131 43 #[.bool false, .string (⟨#[]⟩ : ByteArray)] (0, 0) _ rfl (by (with_reducible repeat (first | refine blk_drewN ?_ _ | refine blk_drew ?_ | refine blk_alloc ?_ _)); refine blk_put (cs := #[.bool false, .string (⟨#[]⟩ : ByteArray)]) ?_ 1 _ rfl; (with_reducible repeat (first | refine blk_drewN ?_ _ | refine blk_drew ?_ | refine blk_alloc ?_ _)); refine blk_put (cs := #[.bool false, .string (⟨#[]⟩ : ByteArray)]) ?_ 0 _ rfl; (with_reducible repeat (first | refine blk_drewN ?_ _ | refine blk_drew ?_ | refine blk_alloc ?_ _)); exact BK131.out) Tryd.underlying43 rfl (by kernel_rfl)) rfl ?_
            exact ⟨by first | rfl | (simp [errW_none, errW_some] <;> rfl) | (simp [*, errW_none, errW_some] <;> rfl) | (simp [bne_nil_]; done), by repeat (first | (with_reducible first | exact HB.out | apply below_alloc | apply pw_below_drewN | apply below_drew1 | refine below_set ?_ GE131.out) | exact HB.out)⟩

-- GIVEN: function 98 (spec_cut)

/-! ### spec_cranMark: function 117 -/
def spec_cranMark.f (a0 : Int) : Option (Bool) := if a0 = 46 then (some true) else (some (a0 == 45))
set_option maxHeartbeats 8000000 in
set_option maxRecDepth 100000 in
theorem spec_cranMark.calls (a0 : Int) (r : Bool) (w : World) (h : spec_cranMark.f a0 = some r) :
    Calls Tryd.prog 117 #[.int .u8 a0] w fun e w' => e = .returned (.bool r) ∧ Drawn0 w w' := by
  have H : (if a0 = 46 then (some true) else (some (a0 == 45))) = some r := h
  clear h
  by_cases c2 : a0 = 46
  · rw [if_pos c2] at H
    have c2b0 : (a0 == 46) = true := beq_iff_eq.mpr c2
    have c2b1 : (a0 != 46) = false := bne_eq_false_iff_eq.mpr c2
    clear c2
    obtain rfl := Option.some.inj H
    go_enter Tryd.func117, Tryd.ntmps117
    go_wp2
    go_ret
    exact ⟨by first | rfl | (simp; done) | (simp [*]; done) | (simp [bne_nil_]; done), by repeat (first | exact Drawn0.refl _ | apply Drawn0.step)⟩
  · rw [if_neg c2] at H
    have c2b0 : (a0 == 46) = false := beq_eq_false_iff_ne.mpr c2
    have c2b1 : (a0 != 46) = true := bne_iff_ne.mpr c2
    obtain rfl := Option.some.inj H
    go_enter Tryd.func117, Tryd.ntmps117
    go_wp2
    go_ret
    exact ⟨by first | rfl | (simp; done) | (simp [*]; done) | (simp [bne_nil_]; done), by repeat (first | exact Drawn0.refl _ | apply Drawn0.step)⟩

/-! ### spec_CRANParse: function 85 -/
def spec_CRANParse.l0 : Nat → List (S43) → List ByteArray → Int → Option ((List (S43)) × Bool)
  | 0, _, _, _ => none
  | k + 1, x2, x4, x5 => if x5 < (x4.length : Int) then (if 0 ≤ x5 then ((spec_Number.f k (rdOf ByteArray.empty x4 x5)).bind fun bt139 => (if bt139.2.2 = true then (if x2.length < 5864062014805 then (spec_CRANParse.l0 k (x2 ++ [(⟨bt139.1, bt139.2.1⟩ : S43)]) x4 (wrap64 (x5 + 1))) else (none)) else (some (([] : List (S43)), false)))) else (none)) else (some (x2, true))
def spec_CRANParse.f (k : Nat) (a0 : ByteArray) : Option ((List (S43)) × Bool) := if a0.toList = ([] : List UInt8) then (some (([] : List (S43)), true)) else ((Giv.spec_cut_cranMark.f a0).bind fun t135 => (spec_CRANParse.l0 k ([] : List (S43)) t135 0))
theorem spec_CRANParse.mono_l : ∀ k, (∀ y0 y1 y2, LeO (spec_CRANParse.l0 k y0 y1 y2) (spec_CRANParse.l0 (k + 1) y0 y1 y2))
  | 0 => fun _ _ _ r h => by simp [spec_CRANParse.l0] at h
  | k + 1 => by
    have ih0 := spec_CRANParse.mono_l k
    · intro y0 y1 y2
      unfold spec_CRANParse.l0
      repeat' first
      | (with_reducible exact ih0 _ _ _)
      | (with_reducible exact spec_Number.mono _ _)
      | (with_reducible exact LeO.refl _)
      | (with_reducible exact LeO.none _)
      | (with_reducible refine LeO.ite ?_ ?_)
      | (with_reducible refine LeO.bind ?_ (fun _ => ?_))
      | exact ih0 _ _ _
      | exact spec_Number.mono _ _
      | exact LeO.none _
      | refine LeO.ite ?_ ?_
      | refine LeO.bind ?_ (fun _ => ?_)
theorem spec_CRANParse.mono : ∀ a0 k, LeO (spec_CRANParse.f k a0) (spec_CRANParse.f (k + 1) a0) := by
  intro a0 k
  have ih0 := spec_CRANParse.mono_l k
  unfold spec_CRANParse.f
  repeat' first
      | (with_reducible exact ih0 _ _ _)
      | (with_reducible exact spec_Number.mono _ _)
      | (with_reducible exact LeO.refl _)
      | (with_reducible exact LeO.none _)
      | (with_reducible refine LeO.ite ?_ ?_)
      | (with_reducible refine LeO.bind ?_ (fun _ => ?_))
      | exact ih0 _ _ _
      | exact spec_Number.mono _ _
      | exact LeO.none _
      | refine LeO.ite ?_ ?_
      | refine LeO.bind ?_ (fun _ => ?_)
set_option maxHeartbeats 8000000 in
set_option maxRecDepth 100000 in
theorem spec_CRANParse.calls (k : Nat) (a0 : ByteArray) (r1 : List (S43)) (r2 : Bool) (w : World) (h : spec_CRANParse.f k a0 = some (r1, r2)) :
    Calls Tryd.prog 85 #[.string a0] w fun e w' => ∃ v0_ : Value, e = .returned (.tuple #[v0_, .bool r2]) ∧ Kd.R k43 43 w' w.heap.size (fun _ => True) v0_ r1 ∧ Below w.heap.size w w' := by
  have hu43 := Tryd.underlying43
  have HB := Aside0.mk (Below.refl w.heap.size w)
  have H : (if a0.toList = ([] : List UInt8) then (some (([] : List (S43)), true)) else ((Giv.spec_cut_cranMark.f a0).bind fun t135 => (spec_CRANParse.l0 k ([] : List (S43)) t135 0))) = some (r1, r2) := h
  clear h
  by_cases c2 : a0.toList = ([] : List UInt8)
  · rw [if_pos c2] at H
    have c2b0 : (a0.toList == ([] : List UInt8)) = true := beq_iff_eq.mpr c2
    have c2b1 : (a0.toList != ([] : List UInt8)) = false := bne_eq_false_iff_eq.mpr c2
    clear c2
    simp only [Option.some.injEq, Prod.mk.injEq] at H
    obtain ⟨rfl, rfl⟩ := H
    go_enter Tryd.func85, Tryd.ntmps85
    go_wp2
    go_ret2
    exact ⟨_, by first | rfl | (simp [errW_none, errW_some] <;> rfl) | (simp [*, errW_none, errW_some] <;> rfl) | (simp [bne_nil_]; done), by first | exact Kd.R_nil _ _ _ _ _ | exact Kd.N_nil _ _ _ _ _ | exact Kd.V_nil _ _ _ _ _ | exact Kd.Q_nil _ _ _ _ _ | exact Kd.S_nil _ _ _ _ _, by repeat (first | (with_reducible first | exact HB.out | apply below_alloc | apply pw_below_drewN | apply below_drew1) | exact HB.out)⟩
  · rw [if_neg c2] at H
    have c2b0 : (a0.toList == ([] : List UInt8)) = false := beq_eq_false_iff_ne.mpr c2
    have c2b1 : (a0.toList != ([] : List UInt8)) = true := bne_iff_ne.mpr c2
    replace H := Option.bind_eq_some_iff.mp H
    obtain ⟨t135, A30, H⟩ := H
    replace H : (spec_CRANParse.l0 k ([] : List (S43)) t135 0) = some (r1, r2) := H
    have A3 := Aside0.mk A30
    clear A30
    have H' := Aside0.mk H
    clear H
    go_enter Tryd.func85, Tryd.ntmps85
    go_wp2_with (first | ((with_reducible refine gate_callee (f := 98) rfl ?_); refine goesL_ (some 11) rfl rfl Tryd.func98 (by kernel_rfl) rfl #[.string a0, .func (.func 117) #[] #[]] rfl (by (try simp only [List.map_toArray, List.map_cons, List.map_nil]); first | done | rfl | (simp only [List.length_drop, List.length_take]; rfl)) ?_; (with_reducible refine (Giv.spec_cut_cranMark.calls a0 t135 _ A3.out).mono ?_); rintro e w4 ⟨v136, rfl, ho0, hb⟩; refine ⟨_, rfl, ?_⟩; have n0_ := Aside0.mk (Kd.R_lower ho0 (below_size (by repeat (first | (with_reducible first | exact HB.out | apply below_alloc | apply pw_below_drewN | apply below_drew1) | exact HB.out)))); have n1_ := Aside0.mk (below_step (by repeat (first | (with_reducible first | exact HB.out | apply below_alloc | apply pw_below_drewN | apply below_drew1) | exact HB.out)) hb); clear HB; have HO137 := n0_; have HB := n1_; clear n0_ n1_; (try clear hb); (try clear hb2); (try clear hk); (try clear hi); (try clear ho0)))
    go_loopg [2, 5] k (fun kq v2 v5 w' => ∃ (x2_1 : List (S43)) (x5_1 : Int), v5 = .int .i64 x5_1 ∧ Aside0 (spec_CRANParse.l0 kq x2_1 t135 x5_1 = some (r1, r2)) ∧ Aside0 (kq ≤ k) ∧ Aside0 (Kd.R k43 43 w' w.heap.size (fun _ => True) v2 x2_1) ∧ Aside0 (Kd.R Kd.string 9 w' w.heap.size (fun _ => True) v136 t135) ∧ Aside0 (Below w.heap.size w w'))
    case atStart => exact ⟨(([] : List (S43))), (0), (by first | rfl | (simp; done) | (simp [*]; done) | (simp [bne_nil_]; done)), H', ⟨Nat.le_refl _⟩, ⟨by first | exact Kd.R_nil _ _ _ _ _ | exact Kd.N_nil _ _ _ _ _ | exact Kd.V_nil _ _ _ _ _ | exact Kd.Q_nil _ _ _ _ _ | exact Kd.S_nil _ _ _ _ _⟩, ⟨by (with_reducible repeat (first | apply Kd.R_alloc | apply Kd.R_drewN | apply Kd.R_drew)); exact HO137.out⟩, ⟨by repeat (first | (with_reducible first | exact HB.out | apply below_alloc | apply pw_below_drewN | apply below_drew1) | exact HB.out)⟩⟩
    case round =>
      clear H'
      try clear c2
      try clear c2b0
      try clear c2b1
      try clear p2
      obtain ⟨x2_1, x5_1, rfl, HA, HK1, HO_2, HO_4, HB⟩ := hrel
      cases gk with
      | zero => exact absurd HA.out (by simp [spec_CRANParse.l0])
      | succ k1 =>
        have H := HA.out
        clear HA
        simp only [spec_CRANParse.l0] at H
        by_cases c5 : x5_1 < (t135.length : Int)
        · rw [if_pos c5] at H
          have c5b0 : decide (x5_1 < (t135.length : Int)) = true := decide_eq_true c5
          clear c5
          by_cases c6 : 0 ≤ x5_1
          · rw [if_pos c6] at H
            have c6b0 : decide (0 ≤ x5_1) = true := decide_eq_true c6
            clear c6
            replace H := Option.bind_eq_some_iff.mp H
            obtain ⟨⟨t139, t140, t141⟩, A70, H⟩ := H
            replace H : (if t141 = true then (if x2_1.length < 5864062014805 then (spec_CRANParse.l0 k1 (x2_1 ++ [(⟨t139, t140⟩ : S43)]) t135 (wrap64 (x5_1 + 1))) else (none)) else (some (([] : List (S43)), false))) = some (r1, r2) := H
            have A7 := Aside0.mk A70
            clear A70
            by_cases c8 : t141 = true
            · subst c8
              have H1 : (if x2_1.length < 5864062014805 then (spec_CRANParse.l0 k1 (x2_1 ++ [(⟨t139, t140⟩ : S43)]) t135 (wrap64 (x5_1 + 1))) else (none)) = some (r1, r2) := by rw [if_pos rfl] at H; exact H
              clear H
              have H := H1
              clear H1
              by_cases c9 : x2_1.length < 5864062014805
              · rw [if_pos c9] at H
                have LMc9 := Aside0.mk c9
                clear c9
                obtain ⟨y143, hy143⟩ : ∃ y_ : List (S43), y_ = (x2_1 ++ [(⟨t139, t140⟩ : S43)]) := ⟨_, rfl⟩
                replace H : (spec_CRANParse.l0 k1 y143 t135 (wrap64 (x5_1 + 1))) = some (r1, r2) := by first | (rw [hy143]; with_reducible exact H) | (have H2_ := (Option.bind_some _ _).symm.trans H; rw [hy143]; with_reducible exact H2_) | (have H2_ := (Option.bind_some _ _).symm.trans H; with_reducible exact H2_) | with_reducible exact H | (rw [hy143]; exact H) | exact H
                have Ny143 := Aside0.mk hy143
                clear hy143
                have H' := Aside0.mk H
                clear H
                obtain ⟨Ao10, co10, eo10⟩ := Kd.R_slice HO_4.out
                subst eo10
                have p138 : 0 ≤ (x5_1 : Int) := of_decide_eq_true (by first | (with_reducible assumption) | assumption)
                have q138 : x5_1 < (t135.length : Int) := of_decide_eq_true (by first | (with_reducible assumption) | assumption)
                obtain ⟨ad138, e138, hx138_0⟩ := Kd.at_string (Kd.R_reads' HO_4.out).2.2 x5_1 p138 q138
                cases e138
                replace p138 := eq_true p138
                replace q138 := eq_true q138
                go_wp2_with (first | ((with_reducible refine gate_callee (f := 50) rfl ?_); refine goesL_ (some 23) rfl rfl Tryd.func50 (by kernel_rfl) rfl #[.string (rdOf ByteArray.empty t135 x5_1)] rfl (by (try simp only [List.map_toArray, List.map_cons, List.map_nil]); first | done | rfl | (simp only [List.length_drop, List.length_take]; rfl)) ?_; (with_reducible refine (spec_Number.calls k1 (rdOf ByteArray.empty t135 x5_1) t139 t140 true _ A7.out).mono ?_); rintro e w11 ⟨rfl, hb⟩; refine ⟨_, rfl, ?_⟩; have n0_ := Aside0.mk (Kd.R_below (by (with_reducible repeat (first | apply Kd.R_alloc | apply Kd.R_drewN | apply Kd.R_drew)); exact HO_2.out) hb); have n1_ := Aside0.mk (Kd.R_below (by (with_reducible repeat (first | apply Kd.R_alloc | apply Kd.R_drewN | apply Kd.R_drew)); exact HO_4.out) hb); have n2_ := Aside0.mk (below_step (by repeat (first | (with_reducible first | exact HB.out | apply below_alloc | apply pw_below_drewN | apply below_drew1) | exact HB.out)) hb); clear HO_2; clear HO_4; clear HB; have HO_2 := n0_; have HO_4 := n1_; have HB := n2_; clear n0_ n1_ n2_; (try clear hb); (try clear hb2); (try clear hk); (try clear hi)) | ((with_reducible refine gate_dst (N := 6) rfl ?_); refine box_event ?hg (N := 6) ?hd (cs := #[.bool false, .string (⟨#[]⟩ : ByteArray)]) (t := 43) ?hr ?_; (case hd => rfl); (case hg => rfl); (case hr => first | (go_simp; done) | (go_simp; rfl)); intro gb142 hg w12 hbox hb; have n0_ := Aside0.mk (Kd.R_below (Kd.R_elderB (by (with_reducible repeat (first | apply Kd.R_alloc | apply Kd.R_drewN | apply Kd.R_drew)); exact HO_2.out) gb142 (Nat.le_of_eq hg.symm)) hb); have n1_ := Aside0.mk (Kd.R_below (by (with_reducible repeat (first | apply Kd.R_alloc | apply Kd.R_drewN | apply Kd.R_drew)); exact HO_4.out) hb); have n2_ := Aside0.mk (below_step (by repeat (first | (with_reducible first | exact HB.out | apply below_alloc | apply pw_below_drewN | apply below_drew1) | exact HB.out)) hb); have n3_ := Aside0.mk (hbox); have n4_ := Aside0.mk ((by rw [hg]; exact (below_size (by repeat (first | (with_reducible first | exact HB.out | apply below_alloc | apply pw_below_drewN | apply below_drew1) | exact HB.out))) : w.heap.size ≤ gb142)); have n5_ := Aside0.mk ((by rw [hg]; exact (below_size (by repeat (first | (with_reducible first | exact HB.out | apply below_alloc | apply pw_below_drewN | apply below_drew1) | exact HB.out))) : w.heap.size ≤ gb142)); clear HO_2; clear HO_4; clear HB; have HO_2 := n0_; have HO_4 := n1_; have HB := n2_; have BK142 := n3_; have GW142 := n4_; have GE142 := n5_; clear n0_ n1_ n2_ n3_ n4_ n5_; clear hb hbox hg; have hcz13_0 : w12.cell? ⟨gb142, 0, none⟩ = some (.bool false) := (blk_cell BK142.out 0).trans rfl; have hcz13_1 : w12.cell? ⟨gb142, 1, none⟩ = some (.string (⟨#[]⟩ : ByteArray)) := (blk_cell BK142.out 1).trans rfl; have hfz13_0 := blk_frozen BK142.out 0; have hfz13_1 := blk_frozen BK142.out 1) | ((with_reducible refine gate_builtin (b := .append) (xs := #[.tmp 28, .tmp 30]) rfl ?_); at_builtin; refine Kd.R_append k43 (w0 := w) w.heap.size rfl (.tmp 28) (.tmp 30) 44 43 (.agg #[(.bool false), (.string ⟨#[]⟩)]) 24 rfl Tryd.underlying44 info43 rfl (by decide) (by omega) u2 x2_1 (⟨t139, t140⟩ : S43) [.bool t139, .string t140] (fun k_ => k_ ≠ gb142) (fun _ => False) rfl (by first | (go_simp; done) | (go_simp; rfl)) ?aP (fun _ hk => hk.elim) ?aF ?aO ?aB ?aS ?aL ?_; (case aP => exact k43_mkM _ _ _ (⟨t139, t140⟩ : S43)); (case aB => exact (by repeat (first | (with_reducible first | exact HB.out | apply below_alloc | apply pw_below_drewN | apply below_drew1 | refine below_set ?_ GE142.out) | exact HB.out))); (case aF => exact (fun k_ hk => Kd.freshB (g := gb142) (o := .cells #[.bool t139, .string t140] 43 (0, 0)) (by (with_reducible repeat (first | refine blk_drewN ?_ _ | refine blk_drew ?_ | refine blk_alloc ?_ _)); refine blk_put (cs := #[.bool t139, .string (⟨#[]⟩ : ByteArray)]) ?_ 1 _ rfl; (with_reducible repeat (first | refine blk_drewN ?_ _ | refine blk_drew ?_ | refine blk_alloc ?_ _)); refine blk_put (cs := #[.bool false, .string (⟨#[]⟩ : ByteArray)]) ?_ 0 _ rfl; (with_reducible repeat (first | refine blk_drewN ?_ _ | refine blk_drew ?_ | refine blk_alloc ?_ _)); exact BK142.out) k_ hk)); (case aO => exact (by (with_reducible repeat (first | apply Kd.R_alloc | apply Kd.R_drewN | apply Kd.R_drew)); exact Kd.R_mono (Kd.R_far (p := ⟨gb142, 1, none⟩) (Kd.R_far (p := ⟨gb142, 0, none⟩) (Kd.R_mono HO_2.out (fun k_ hk => (⟨hk, hk.2⟩ : _ ∧ k_ ≠ gb142))) (fun _ hk => hk.2) (.bool t139)) (fun _ hk => hk.2) (.string t140)) (fun _ hk => hk.1.2))); (case aS => exact (below_size (by repeat (first | (with_reducible first | exact HB.out | apply below_alloc | apply pw_below_drewN | apply below_drew1 | refine below_set ?_ GE142.out) | exact HB.out)))); (case aL => have := LMc9.out; omega); intro v144 w14 ho hb hg hat; rw [← Ny143.out] at ho; have n0_ := Aside0.mk (Kd.R_over' (by (with_reducible repeat (first | apply Kd.R_alloc | apply Kd.R_drewN | apply Kd.R_drew)); exact (Kd.R_mono (Kd.R_far (p := ⟨gb142, 1, none⟩) (Kd.R_far (p := ⟨gb142, 0, none⟩) (Kd.R_types HO_4.out BK142.out (by decide)) (fun _ hk => hk.2) (.bool t139)) (fun _ hk => hk.2) (.string t140)) (fun _ h_ => h_.1))) (Kd.R_typed (by (with_reducible repeat (first | apply Kd.R_alloc | apply Kd.R_drewN | apply Kd.R_drew)); exact (Kd.R_mono (Kd.R_far (p := ⟨gb142, 1, none⟩) (Kd.R_far (p := ⟨gb142, 0, none⟩) (Kd.R_mono HO_2.out (fun k_ hk => (⟨hk, hk.2⟩ : _ ∧ k_ ≠ gb142))) (fun _ hk => hk.2) (.bool t139)) (fun _ hk => hk.2) (.string t140)) (fun _ h_ => h_.1)))) (by decide) hg); have n1_ := Aside0.mk (blk_grown (g := gb142) (o := .cells #[.bool t139, .string t140] 43 (0, 0)) (by (with_reducible repeat (first | refine blk_drewN ?_ _ | refine blk_drew ?_ | refine blk_alloc ?_ _)); refine blk_put (cs := #[.bool t139, .string (⟨#[]⟩ : ByteArray)]) ?_ 1 _ rfl; (with_reducible repeat (first | refine blk_drewN ?_ _ | refine blk_drew ?_ | refine blk_alloc ?_ _)); refine blk_put (cs := #[.bool false, .string (⟨#[]⟩ : ByteArray)]) ?_ 0 _ rfl; (with_reducible repeat (first | refine blk_drewN ?_ _ | refine blk_drew ?_ | refine blk_alloc ?_ _)); exact BK142.out) hg (Kd.R_away HO_2.out (fun _ hk => hk.2))); have n2_ := Aside0.mk (hb); have n3_ := Aside0.mk (ho); clear HO_4; clear BK142; clear HB; clear HO_2; have HO_4 := n0_; have BK142 := n1_; have HB := n2_; have HO145 := n3_; clear n0_ n1_ n2_ n3_; clear ho hb hg hat))
                go_roundg k1
                case measure => have := HK1.out; omega
                case rel => exact ⟨(y143), (wrap64 (x5_1 + 1)), (by first | rfl | (simp; done) | (simp [*]; done) | (simp [bne_nil_]; done)), H', ⟨by have := HK1.out; omega⟩, ⟨by (with_reducible repeat (first | apply Kd.R_alloc | apply Kd.R_drewN | apply Kd.R_drew)); exact Kd.R_mono HO145.out (fun _ hk => trivial)⟩, ⟨by (with_reducible repeat (first | apply Kd.R_alloc | apply Kd.R_drewN | apply Kd.R_drew)); exact HO_4.out⟩, ⟨by repeat (first | (with_reducible first | exact HB.out | apply below_alloc | apply pw_below_drewN | apply below_drew1 | refine below_set ?_ GE142.out) | exact HB.out)⟩⟩
              · rw [if_neg c9] at H
                exact absurd H (by simp)
            · replace c8 := Bool.eq_false_iff.mpr c8
              subst c8
              have H1 : (some (([] : List (S43)), false)) = some (r1, r2) := by rw [if_neg (show ¬ (false = true) by decide)] at H; exact H
              clear H
              have H := H1
              clear H1
              simp only [Option.some.injEq, Prod.mk.injEq] at H
              obtain ⟨rfl, rfl⟩ := H
              obtain ⟨Ao15, co15, eo15⟩ := Kd.R_slice HO_4.out
              subst eo15
              have p138 : 0 ≤ (x5_1 : Int) := of_decide_eq_true (by first | (with_reducible assumption) | assumption)
              have q138 : x5_1 < (t135.length : Int) := of_decide_eq_true (by first | (with_reducible assumption) | assumption)
              obtain ⟨ad138, e138, hx138_0⟩ := Kd.at_string (Kd.R_reads' HO_4.out).2.2 x5_1 p138 q138
              cases e138
              replace p138 := eq_true p138
              replace q138 := eq_true q138
              go_wp2_with (first | ((with_reducible refine gate_callee (f := 50) rfl ?_); refine goesL_ (some 23) rfl rfl Tryd.func50 (by kernel_rfl) rfl #[.string (rdOf ByteArray.empty t135 x5_1)] rfl (by (try simp only [List.map_toArray, List.map_cons, List.map_nil]); first | done | rfl | (simp only [List.length_drop, List.length_take]; rfl)) ?_; (with_reducible refine (spec_Number.calls k1 (rdOf ByteArray.empty t135 x5_1) t139 t140 false _ A7.out).mono ?_); rintro e w16 ⟨rfl, hb⟩; refine ⟨_, rfl, ?_⟩; have n0_ := Aside0.mk (Kd.R_below (by (with_reducible repeat (first | apply Kd.R_alloc | apply Kd.R_drewN | apply Kd.R_drew)); exact HO_2.out) hb); have n1_ := Aside0.mk (Kd.R_below (by (with_reducible repeat (first | apply Kd.R_alloc | apply Kd.R_drewN | apply Kd.R_drew)); exact HO_4.out) hb); have n2_ := Aside0.mk (below_step (by repeat (first | (with_reducible first | exact HB.out | apply below_alloc | apply pw_below_drewN | apply below_drew1) | exact HB.out)) hb); clear HO_2; clear HO_4; clear HB; have HO_2 := n0_; have HO_4 := n1_; have HB := n2_; clear n0_ n1_ n2_; (try clear hb); (try clear hb2); (try clear hk); (try clear hi)) | ((with_reducible refine gate_dst (N := 6) rfl ?_); refine box_event ?hg (N := 6) ?hd (cs := #[.bool false, .string (⟨#[]⟩ : ByteArray)]) (t := 43) ?hr ?_; (case hd => rfl); (case hg => rfl); (case hr => first | (go_simp; done) | (go_simp; rfl)); intro gb142 hg w17 hbox hb; have n0_ := Aside0.mk (Kd.R_below (Kd.R_elderB (by (with_reducible repeat (first | apply Kd.R_alloc | apply Kd.R_drewN | apply Kd.R_drew)); exact HO_2.out) gb142 (Nat.le_of_eq hg.symm)) hb); have n1_ := Aside0.mk (Kd.R_below (by (with_reducible repeat (first | apply Kd.R_alloc | apply Kd.R_drewN | apply Kd.R_drew)); exact HO_4.out) hb); have n2_ := Aside0.mk (below_step (by repeat (first | (with_reducible first | exact HB.out | apply below_alloc | apply pw_below_drewN | apply below_drew1) | exact HB.out)) hb); have n3_ := Aside0.mk (hbox); have n4_ := Aside0.mk ((by rw [hg]; exact (below_size (by repeat (first | (with_reducible first | exact HB.out | apply below_alloc | apply pw_below_drewN | apply below_drew1) | exact HB.out))) : w.heap.size ≤ gb142)); have n5_ := Aside0.mk ((by rw [hg]; exact (below_size (by repeat (first | (with_reducible first | exact HB.out | apply below_alloc | apply pw_below_drewN | apply below_drew1) | exact HB.out))) : w.heap.size ≤ gb142)); clear HO_2; clear HO_4; clear HB; have HO_2 := n0_; have HO_4 := n1_; have HB := n2_; have BK142 := n3_; have GW142 := n4_; have GE142 := n5_; clear n0_ n1_ n2_ n3_ n4_ n5_; clear hb hbox hg; have hcz18_0 : w17.cell? ⟨gb142, 0, none⟩ = some (.bool false) := (blk_cell BK142.out 0).trans rfl; have hcz18_1 : w17.cell? ⟨gb142, 1, none⟩ = some (.string (⟨#[]⟩ : ByteArray)) := (blk_cell BK142.out 1).trans rfl; have hfz18_0 := blk_frozen BK142.out 0; have hfz18_1 := blk_frozen BK142.out 1))
              go_ret2
              exact ⟨_, by first | rfl | (simp [errW_none, errW_some] <;> rfl) | (simp [*, errW_none, errW_some] <;> rfl) | (simp [bne_nil_]; done), by first | exact Kd.R_nil _ _ _ _ _ | exact Kd.N_nil _ _ _ _ _ | exact Kd.V_nil _ _ _ _ _ | exact Kd.Q_nil _ _ _ _ _ | exact Kd.S_nil _ _ _ _ _, by repeat (first | (with_reducible first | exact HB.out | apply below_alloc | apply pw_below_drewN | apply below_drew1 | refine below_set ?_ GE142.out) | exact HB.out)⟩
          · rw [if_neg c6] at H
            exact absurd H (by simp)
        · rw [if_neg c5] at H
          have c5b0 : decide (x5_1 < (t135.length : Int)) = false := decide_eq_false c5
          clear c5
          simp only [Option.some.injEq, Prod.mk.injEq] at H
          obtain ⟨rfl, rfl⟩ := H
          obtain ⟨Ao19, co19, eo19⟩ := Kd.R_slice HO_4.out
          subst eo19
          go_wp2
          go_ret2
          exact ⟨_, by first | rfl | (simp [errW_none, errW_some] <;> rfl) | (simp [*, errW_none, errW_some] <;> rfl) | (simp [bne_nil_]; done), by (with_reducible repeat (first | apply Kd.R_alloc | apply Kd.R_drewN | apply Kd.R_drew)); exact HO_2.out, by repeat (first | (with_reducible first | exact HB.out | apply below_alloc | apply pw_below_drewN | apply below_drew1) | exact HB.out)⟩

/-! ### spec_CRANCompare: function 42 -/
def spec_CRANCompare.j0 : Nat → List (S43) → List (S43) → Bool → Option (Int × Bool)
  | 0, _, _, _ => none
  | k + 1, x6, x7, x24 => if x24 = true then (some (0, false)) else ((spec_CompareNumbers.f k x6 x7).bind fun t154 => (if t154 = 0 then ((spec_orderInts.f (x6.length : Int) (x7.length : Int)).bind fun t155 => (some (t155, true))) else (some (t154, true))))
def spec_CRANCompare.f (k : Nat) (a0 : ByteArray) (a1 : ByteArray) : Option (Int × Bool) := (spec_CRANParse.f k a0).bind fun bt146 => ((spec_CRANParse.f k a1).bind fun bt150 => (if bt146.2 = true then (spec_CRANCompare.j0 k bt146.1 bt150.1 (!bt150.2)) else (spec_CRANCompare.j0 k bt146.1 bt150.1 true)))
theorem spec_CRANCompare.mono_l : ∀ k, (∀ y0 y1 y2, LeO (spec_CRANCompare.j0 k y0 y1 y2) (spec_CRANCompare.j0 (k + 1) y0 y1 y2))
  | 0 => fun _ _ _ r h => by simp [spec_CRANCompare.j0] at h
  | k + 1 => by
    have ih0 := spec_CRANCompare.mono_l k
    · intro y0 y1 y2
      unfold spec_CRANCompare.j0
      repeat' first
      | (with_reducible exact ih0 _ _ _)
      | (with_reducible exact spec_CRANParse.mono _ _)
      | (with_reducible exact spec_CompareNumbers.mono _ _ _)
      | (with_reducible exact LeO.refl _)
      | (with_reducible exact LeO.none _)
      | (with_reducible refine LeO.ite ?_ ?_)
      | (with_reducible refine LeO.bind ?_ (fun _ => ?_))
      | exact ih0 _ _ _
      | exact spec_CRANParse.mono _ _
      | exact spec_CompareNumbers.mono _ _ _
      | exact LeO.none _
      | refine LeO.ite ?_ ?_
      | refine LeO.bind ?_ (fun _ => ?_)
theorem spec_CRANCompare.mono : ∀ a0 a1 k, LeO (spec_CRANCompare.f k a0 a1) (spec_CRANCompare.f (k + 1) a0 a1) := by
  intro a0 a1 k
  have ih0 := spec_CRANCompare.mono_l k
  unfold spec_CRANCompare.f
  repeat' first
      | (with_reducible exact ih0 _ _ _)
      | (with_reducible exact spec_CRANParse.mono _ _)
      | (with_reducible exact spec_CompareNumbers.mono _ _ _)
      | (with_reducible exact LeO.refl _)
      | (with_reducible exact LeO.none _)
      | (with_reducible refine LeO.ite ?_ ?_)
      | (with_reducible refine LeO.bind ?_ (fun _ => ?_))
      | exact ih0 _ _ _
      | exact spec_CRANParse.mono _ _
      | exact spec_CompareNumbers.mono _ _ _
      | exact LeO.none _
      | refine LeO.ite ?_ ?_
      | refine LeO.bind ?_ (fun _ => ?_)
set_option maxHeartbeats 8000000 in
set_option maxRecDepth 100000 in
theorem spec_CRANCompare.calls (k : Nat) (a0 : ByteArray) (a1 : ByteArray) (r1 : Int) (r2 : Bool) (w : World) (h : spec_CRANCompare.f k a0 a1 = some (r1, r2)) :
    Calls Tryd.prog 42 #[.string a0, .string a1] w fun e w' => e = .returned (.tuple #[.int .i64 r1, .bool r2]) ∧ Below w.heap.size w w' := by
  have HB := Aside0.mk (Below.refl w.heap.size w)
  have H : ((spec_CRANParse.f k a0).bind fun bt146 => ((spec_CRANParse.f k a1).bind fun bt150 => (if bt146.2 = true then (spec_CRANCompare.j0 k bt146.1 bt150.1 (!bt150.2)) else (spec_CRANCompare.j0 k bt146.1 bt150.1 true)))) = some (r1, r2) := h
  clear h
  replace H := Option.bind_eq_some_iff.mp H
  obtain ⟨⟨t146, t147⟩, A30, H⟩ := H
  replace H : ((spec_CRANParse.f k a1).bind fun bt150 => (if t147 = true then (spec_CRANCompare.j0 k t146 bt150.1 (!bt150.2)) else (spec_CRANCompare.j0 k t146 bt150.1 true))) = some (r1, r2) := H
  have A3 := Aside0.mk A30
  clear A30
  replace H := Option.bind_eq_some_iff.mp H
  obtain ⟨⟨t150, t151⟩, A40, H⟩ := H
  replace H : (if t147 = true then (spec_CRANCompare.j0 k t146 t150 (!t151)) else (spec_CRANCompare.j0 k t146 t150 true)) = some (r1, r2) := H
  have A4 := Aside0.mk A40
  clear A40
  have HC5 := Aside0.mk H
  clear H
  go_enter Tryd.func42, Tryd.ntmps42
  go_upto_region 3 with (first | ((with_reducible refine gate_callee (f := 85) rfl ?_); refine goesL_ (some 11) rfl rfl Tryd.func85 (by kernel_rfl) rfl #[.string a0] rfl (by (try simp only [List.map_toArray, List.map_cons, List.map_nil]); first | done | rfl | (simp only [List.length_drop, List.length_take]; rfl)) ?_; (with_reducible refine (spec_CRANParse.calls k a0 t146 t147 _ A3.out).mono ?_); rintro e w6 ⟨v148, rfl, ho0, hb⟩; refine ⟨_, rfl, ?_⟩; have n0_ := Aside0.mk (Kd.R_lower ho0 (below_size (by repeat (first | (with_reducible first | exact HB.out | apply below_alloc | apply pw_below_drewN | apply below_drew1) | exact HB.out)))); have n1_ := Aside0.mk (below_step (by repeat (first | (with_reducible first | exact HB.out | apply below_alloc | apply pw_below_drewN | apply below_drew1) | exact HB.out)) hb); clear HB; have HO149 := n0_; have HB := n1_; clear n0_ n1_; (try clear hb); (try clear hb2); (try clear hk); (try clear hi); (try clear ho0)) | ((with_reducible refine gate_callee (f := 85) rfl ?_); refine goesL_ (some 16) rfl rfl Tryd.func85 (by kernel_rfl) rfl #[.string a1] rfl (by (try simp only [List.map_toArray, List.map_cons, List.map_nil]); first | done | rfl | (simp only [List.length_drop, List.length_take]; rfl)) ?_; (with_reducible refine (spec_CRANParse.calls k a1 t150 t151 _ A4.out).mono ?_); rintro e w7 ⟨v152, rfl, ho0, hb⟩; refine ⟨_, rfl, ?_⟩; have n0_ := Aside0.mk (Kd.R_elder' (by (with_reducible repeat (first | apply Kd.R_alloc | apply Kd.R_drewN | apply Kd.R_drew)); exact HO149.out) (Kd.R_base ho0) hb); have n1_ := Aside0.mk (Kd.R_lower (Kd.R_new' ho0 (Kd.R_lt (by (with_reducible repeat (first | apply Kd.R_alloc | apply Kd.R_drewN | apply Kd.R_drew)); exact HO149.out))) (below_size (by repeat (first | (with_reducible first | exact HB.out | apply below_alloc | apply pw_below_drewN | apply below_drew1) | exact HB.out)))); have n2_ := Aside0.mk (below_step (by repeat (first | (with_reducible first | exact HB.out | apply below_alloc | apply pw_below_drewN | apply below_drew1) | exact HB.out)) hb); clear HO149; clear HB; have HO149 := n0_; have HO153 := n1_; have HB := n2_; clear n0_ n1_ n2_; (try clear hb); (try clear hb2); (try clear hk); (try clear hi); (try clear ho0)))
  (try simp only [Act.put, List.setIfInBounds_toArray, List.set_cons_zero, List.set_cons_succ])
  go_cut [24] (fun v24 wc => ∃ (kq : Nat) (x24_4 : Bool), v24 = .bool x24_4 ∧ Aside0 (spec_CRANCompare.j0 kq t146 t150 x24_4 = some (r1, r2)) ∧ Aside0 (kq ≤ k) ∧ Aside0 (Kd.R k43 43 wc w.heap.size (fun k_ => some k_ ≠ (v152 : Value).ownBlock) v148 t146) ∧ Aside0 (Kd.R k43 43 wc w.heap.size (fun k_ => some k_ ≠ (v148 : Value).ownBlock) v152 t150) ∧ Aside0 (Below w.heap.size w wc))
  case first =>
    have H := HC5.out
    clear HC5
    by_cases c8 : t147 = true
    · subst c8
      have H1 : (spec_CRANCompare.j0 k t146 t150 (!t151)) = some (r1, r2) := by rw [if_pos rfl] at H; exact H
      clear H
      have H := H1
      clear H1
      have H' := Aside0.mk H
      clear H
      go_wp2
      go_meet
      case rel => exact ⟨_, (!t151), (by first | rfl | (simp; done) | (simp [*]; done) | (simp [bne_nil_]; done)), H', ⟨by first | omega | exact Nat.le_refl _⟩, ⟨by (with_reducible repeat (first | apply Kd.R_alloc | apply Kd.R_drewN | apply Kd.R_drew)); exact Kd.R_mono HO149.out (fun _ hk => hk.2)⟩, ⟨by (with_reducible repeat (first | apply Kd.R_alloc | apply Kd.R_drewN | apply Kd.R_drew)); exact Kd.R_mono HO153.out (fun _ hk => hk.2)⟩, ⟨by repeat (first | (with_reducible first | exact HB.out | apply below_alloc | apply pw_below_drewN | apply below_drew1) | exact HB.out)⟩⟩
    · replace c8 := Bool.eq_false_iff.mpr c8
      subst c8
      have H1 : (spec_CRANCompare.j0 k t146 t150 true) = some (r1, r2) := by rw [if_neg (show ¬ (false = true) by decide)] at H; exact H
      clear H
      have H := H1
      clear H1
      have H' := Aside0.mk H
      clear H
      go_wp2
      go_meet
      case rel => exact ⟨_, (true), (by first | rfl | (simp; done) | (simp [*]; done) | (simp [bne_nil_]; done)), H', ⟨by first | omega | exact Nat.le_refl _⟩, ⟨by (with_reducible repeat (first | apply Kd.R_alloc | apply Kd.R_drewN | apply Kd.R_drew)); exact Kd.R_mono HO149.out (fun _ hk => hk.2)⟩, ⟨by (with_reducible repeat (first | apply Kd.R_alloc | apply Kd.R_drewN | apply Kd.R_drew)); exact Kd.R_mono HO153.out (fun _ hk => hk.2)⟩, ⟨by repeat (first | (with_reducible first | exact HB.out | apply below_alloc | apply pw_below_drewN | apply below_drew1) | exact HB.out)⟩⟩
  case rest =>
    clear HC5
    try clear p2
    try clear c4
    try clear c8
    obtain ⟨kq, x24_4, rfl, HA, HJ4, HO_6, HO_7, HB⟩ := hcut
    cases kq with
    | zero => exact absurd HA.out (by simp [spec_CRANCompare.j0])
    | succ kj4 =>
      have H := HA.out
      clear HA
      simp only [spec_CRANCompare.j0] at H
      by_cases c9 : x24_4 = true
      · subst c9
        have H1 : (some (0, false)) = some (r1, r2) := by rw [if_pos rfl] at H; exact H
        clear H
        have H := H1
        clear H1
        simp only [Option.some.injEq, Prod.mk.injEq] at H
        obtain ⟨rfl, rfl⟩ := H
        go_wp2
        go_ret2
        exact ⟨by first | rfl | (simp [errW_none, errW_some] <;> rfl) | (simp [*, errW_none, errW_some] <;> rfl) | (simp [bne_nil_]; done), by repeat (first | (with_reducible first | exact HB.out | apply below_alloc | apply pw_below_drewN | apply below_drew1) | exact HB.out)⟩
      · replace c9 := Bool.eq_false_iff.mpr c9
        subst c9
        have H1 : ((spec_CompareNumbers.f kj4 t146 t150).bind fun t154 => (if t154 = 0 then ((spec_orderInts.f (t146.length : Int) (t150.length : Int)).bind fun t155 => (some (t155, true))) else (some (t154, true)))) = some (r1, r2) := by rw [if_neg (show ¬ (false = true) by decide)] at H; exact H
        clear H
        have H := H1
        clear H1
        replace H := Option.bind_eq_some_iff.mp H
        obtain ⟨t154, A100, H⟩ := H
        replace H : (if t154 = 0 then ((spec_orderInts.f (t146.length : Int) (t150.length : Int)).bind fun t155 => (some (t155, true))) else (some (t154, true))) = some (r1, r2) := H
        have A10 := Aside0.mk A100
        clear A100
        by_cases c11 : t154 = 0
        · rw [if_pos c11] at H
          have c11b0 : (t154 == 0) = true := beq_iff_eq.mpr c11
          have c11b1 : (t154 != 0) = false := bne_eq_false_iff_eq.mpr c11
          clear c11
          replace H := Option.bind_eq_some_iff.mp H
          obtain ⟨t155, A120, H⟩ := H
          replace H : (some (t155, true)) = some (r1, r2) := H
          have A12 := Aside0.mk A120
          clear A120
          simp only [Option.some.injEq, Prod.mk.injEq] at H
          obtain ⟨rfl, rfl⟩ := H
          obtain ⟨Ao13, co13, eo13⟩ := Kd.R_slice HO_6.out
          subst eo13
          obtain ⟨Ao14, co14, eo14⟩ := Kd.R_slice HO_7.out
          subst eo14
          go_wp2_with (first | ((with_reducible refine gate_callee (f := 51) rfl ?_); refine goesL_ (some 27) rfl rfl Tryd.func51 (by kernel_rfl) rfl #[.slice Ao13 t146.length co13, .slice Ao14 t150.length co14] rfl (by (try simp only [List.map_toArray, List.map_cons, List.map_nil]); first | done | rfl | (simp only [List.length_drop, List.length_take]; rfl)) ?_; (with_reducible refine (spec_CompareNumbers.calls kj4 _ _ t146 _ _ t150 t154 _ ?side1 ?side2 ?side3 ?side4 A10.out).mono ?_); (case side1 => repeat (first | exact (Kd.R_reads' HO_6.out).2.2 | (with_reducible refine Kd.C_alloc ?_ _) | (with_reducible refine Kd.C_drewN ?_ _) | (with_reducible refine Kd.C_drew ?_))); (case side2 => exact (Kd.R_reads' HO_6.out).2.1); (case side3 => repeat (first | exact (Kd.R_reads' HO_7.out).2.2 | (with_reducible refine Kd.C_alloc ?_ _) | (with_reducible refine Kd.C_drewN ?_ _) | (with_reducible refine Kd.C_drew ?_))); (case side4 => exact (Kd.R_reads' HO_7.out).2.1); rintro e w15 ⟨rfl, hb⟩; refine ⟨_, rfl, ?_⟩; have n0_ := Aside0.mk (Kd.R_below (by (with_reducible repeat (first | apply Kd.R_alloc | apply Kd.R_drewN | apply Kd.R_drew)); exact HO_6.out) hb); have n1_ := Aside0.mk (Kd.R_below (by (with_reducible repeat (first | apply Kd.R_alloc | apply Kd.R_drewN | apply Kd.R_drew)); exact HO_7.out) hb); have n2_ := Aside0.mk (below_step (by repeat (first | (with_reducible first | exact HB.out | apply below_alloc | apply pw_below_drewN | apply below_drew1) | exact HB.out)) hb); clear HO_6; clear HO_7; clear HB; have HO_6 := n0_; have HO_7 := n1_; have HB := n2_; clear n0_ n1_ n2_; (try clear hb); (try clear hb2); (try clear hk); (try clear hi)) | ((with_reducible refine gate_callee (f := 76) rfl ?_); refine goesL_ (some 34) rfl rfl Tryd.func76 (by kernel_rfl) rfl #[.int .i64 (t146.length : Int), .int .i64 (t150.length : Int)] rfl (by (try simp only [List.map_toArray, List.map_cons, List.map_nil]); first | done | rfl | (simp only [List.length_drop, List.length_take]; rfl)) ?_; (with_reducible refine (spec_orderInts.calls (t146.length : Int) (t150.length : Int) t155 _ A12.out).mono ?_); rintro e w' ⟨rfl, ⟨nd, rfl⟩⟩; refine ⟨_, rfl, ?_⟩))
          go_ret2
          exact ⟨by first | rfl | (simp [errW_none, errW_some] <;> rfl) | (simp [*, errW_none, errW_some] <;> rfl) | (simp [bne_nil_]; done), by repeat (first | (with_reducible first | exact HB.out | apply below_alloc | apply pw_below_drewN | apply below_drew1) | exact HB.out)⟩
        · rw [if_neg c11] at H
          have c11b0 : (t154 == 0) = false := beq_eq_false_iff_ne.mpr c11
          have c11b1 : (t154 != 0) = true := bne_iff_ne.mpr c11
          simp only [Option.some.injEq, Prod.mk.injEq] at H
          obtain ⟨rfl, rfl⟩ := H
          obtain ⟨Ao16, co16, eo16⟩ := Kd.R_slice HO_6.out
          subst eo16
          obtain ⟨Ao17, co17, eo17⟩ := Kd.R_slice HO_7.out
          subst eo17
          go_wp2_with (first | ((with_reducible refine gate_callee (f := 51) rfl ?_); refine goesL_ (some 27) rfl rfl Tryd.func51 (by kernel_rfl) rfl #[.slice Ao16 t146.length co16, .slice Ao17 t150.length co17] rfl (by (try simp only [List.map_toArray, List.map_cons, List.map_nil]); first | done | rfl | (simp only [List.length_drop, List.length_take]; rfl)) ?_; (with_reducible refine (spec_CompareNumbers.calls kj4 _ _ t146 _ _ t150 t154 _ ?side1 ?side2 ?side3 ?side4 A10.out).mono ?_); (case side1 => repeat (first | exact (Kd.R_reads' HO_6.out).2.2 | (with_reducible refine Kd.C_alloc ?_ _) | (with_reducible refine Kd.C_drewN ?_ _) | (with_reducible refine Kd.C_drew ?_))); (case side2 => exact (Kd.R_reads' HO_6.out).2.1); (case side3 => repeat (first | exact (Kd.R_reads' HO_7.out).2.2 | (with_reducible refine Kd.C_alloc ?_ _) | (with_reducible refine Kd.C_drewN ?_ _) | (with_reducible refine Kd.C_drew ?_))); (case side4 => exact (Kd.R_reads' HO_7.out).2.1); rintro e w18 ⟨rfl, hb⟩; refine ⟨_, rfl, ?_⟩; have n0_ := Aside0.mk (Kd.R_below (by (with_reducible repeat (first | apply Kd.R_alloc | apply Kd.R_drewN | apply Kd.R_drew)); exact HO_6.out) hb); have n1_ := Aside0.mk (Kd.R_below (by (with_reducible repeat (first | apply Kd.R_alloc | apply Kd.R_drewN | apply Kd.R_drew)); exact HO_7.out) hb); have n2_ := Aside0.mk (below_step (by repeat (first | (with_reducible first | exact HB.out | apply below_alloc | apply pw_below_drewN | apply below_drew1) | exact HB.out)) hb); clear HO_6; clear HO_7; clear HB; have HO_6 := n0_; have HO_7 := n1_; have HB := n2_; clear n0_ n1_ n2_; (try clear hb); (try clear hb2); (try clear hk); (try clear hi)))
          go_ret2
          exact ⟨by first | rfl | (simp [errW_none, errW_some] <;> rfl) | (simp [*, errW_none, errW_some] <;> rfl) | (simp [bne_nil_]; done), by repeat (first | (with_reducible first | exact HB.out | apply below_alloc | apply pw_below_drewN | apply below_drew1) | exact HB.out)⟩

-- LEFT OUT: function 139

-- LEFT OUT: function 118

-- LEFT OUT: function 119

-- LEFT OUT: function 186

-- LEFT OUT: function 196

-- LEFT OUT: function 205

-- LEFT OUT: function 194

-- LEFT OUT: function 219

-- LEFT OUT: function 242

-- LEFT OUT: function 243

-- LEFT OUT: function 235

-- LEFT OUT: function 244

-- LEFT OUT: function 245

-- LEFT OUT: function 236

-- LEFT OUT: function 230

-- LEFT OUT: function 227

-- LEFT OUT: function 220

-- LEFT OUT: function 206

-- LEFT OUT: function 207

-- LEFT OUT: function 208

-- LEFT OUT: function 197

-- LEFT OUT: function 221

-- LEFT OUT: function 222

-- LEFT OUT: function 228

-- LEFT OUT: function 223

-- LEFT OUT: function 209

-- LEFT OUT: function 187

-- LEFT OUT: function 162

-- LEFT OUT: function 140

-- LEFT OUT: function 141

-- LEFT OUT: function 120

-- LEFT OUT: function 86

-- LEFT OUT: function 150

-- LEFT OUT: function 130

-- LEFT OUT: function 188

-- NOT PRINTED: function 163 (semantic_components_Fetch)

-- NOT PRINTED: function 142 (semantic_components_Cmp)

-- NOT PRINTED: function 121 (semantic_CRANVersion_compare)

-- NOT PRINTED: function 87 (semantic_CRANVersion_Compare)

-- GIVEN: function 43 (impl_CRANCompare)

-- NOT PRINTED: function 88 (semantic_CRANVersion_CompareStr)

-- GIVEN: function 44 (impl_CRANCompareText)

/-! ### laws_FnCRAN: function 9 -/
mutual
def laws_FnCRAN.j0 : Nat → ByteArray → ByteArray → Bool → Option (Bool)
  | 0, _, _, _ => none
  | k + 1, x0, x1, x20 => if x20 = true then (some true) else ((laws_short.f k (([x0, x1] : List ByteArray))).bind fun t159 => (if t159 = true then ((spec_CRANKnown.f k x0).bind fun t160 => (if t160 = true then ((spec_CRANKnown.f k x1).bind fun t161 => (laws_FnCRAN.j1 k x0 x1 (!t161))) else (laws_FnCRAN.j1 k x0 x1 true))) else (laws_FnCRAN.j1 k x0 x1 true)))
def laws_FnCRAN.j1 : Nat → ByteArray → ByteArray → Bool → Option (Bool)
  | 0, _, _, _ => none
  | k + 1, x0, x1, x35 => if x35 = true then (some true) else ((spec_CRANCompare.f k x0 x1).bind fun bt162 => ((Giv.impl_CRANCompare.f k x0 x1).bind fun bt164 => ((Giv.impl_CRANCompareText.f k x0 x1).bind fun bt166 => ((Giv.impl_CRANCompare.f k x1 x0).bind fun bt168 => (if bt164.1 = bt162.1 then (if (bt164.2 == bt162.2) = true then (if bt166.1 = bt162.1 then (if (bt166.2 == bt162.2) = true then (if (bt168.2 == bt162.2) = true then ((laws_turned.f bt164.1 bt168.1).bind fun t170 => (some t170)) else (some false)) else (some false)) else (some false)) else (some false)) else (some false))))))
end
def laws_FnCRAN.f (k : Nat) (a0 : ByteArray) (a1 : ByteArray) : Option (Bool) := if (a0.size : Int) > 2147483647 then (laws_FnCRAN.j0 k a0 a1 true) else (laws_FnCRAN.j0 k a0 a1 (decide ((a1.size : Int) > 2147483647)))
theorem laws_FnCRAN.mono_l : ∀ k, (∀ y0 y1 y2, LeO (laws_FnCRAN.j0 k y0 y1 y2) (laws_FnCRAN.j0 (k + 1) y0 y1 y2)) ∧ (∀ y0 y1 y2, LeO (laws_FnCRAN.j1 k y0 y1 y2) (laws_FnCRAN.j1 (k + 1) y0 y1 y2))
  | 0 => ⟨fun _ _ _ r h => by simp [laws_FnCRAN.j0] at h, fun _ _ _ r h => by simp [laws_FnCRAN.j1] at h⟩
  | k + 1 => by
    obtain ⟨ih0, ih1⟩ := laws_FnCRAN.mono_l k
    refine ⟨?_, ?_⟩
    · intro y0 y1 y2
      unfold laws_FnCRAN.j0
      repeat' first
      | (with_reducible exact ih0 _ _ _)
      | (with_reducible exact ih1 _ _ _)
      | (with_reducible exact Giv.impl_CRANCompare.mono _ _ _)
      | (with_reducible exact Giv.impl_CRANCompareText.mono _ _ _)
      | (with_reducible exact laws_short.mono _ _)
      | (with_reducible exact spec_CRANCompare.mono _ _ _)
      | (with_reducible exact spec_CRANKnown.mono _ _)
      | (with_reducible exact LeO.refl _)
      | (with_reducible exact LeO.none _)
      | (with_reducible refine LeO.ite ?_ ?_)
      | (with_reducible refine LeO.bind ?_ (fun _ => ?_))
      | exact ih0 _ _ _
      | exact ih1 _ _ _
      | exact Giv.impl_CRANCompare.mono _ _ _
      | exact Giv.impl_CRANCompareText.mono _ _ _
      | exact laws_short.mono _ _
      | exact spec_CRANCompare.mono _ _ _
      | exact spec_CRANKnown.mono _ _
      | exact LeO.none _
      | refine LeO.ite ?_ ?_
      | refine LeO.bind ?_ (fun _ => ?_)
    · intro y0 y1 y2
      unfold laws_FnCRAN.j1
      repeat' first
      | (with_reducible exact ih0 _ _ _)
      | (with_reducible exact ih1 _ _ _)
      | (with_reducible exact Giv.impl_CRANCompare.mono _ _ _)
      | (with_reducible exact Giv.impl_CRANCompareText.mono _ _ _)
      | (with_reducible exact laws_short.mono _ _)
      | (with_reducible exact spec_CRANCompare.mono _ _ _)
      | (with_reducible exact spec_CRANKnown.mono _ _)
      | (with_reducible exact LeO.refl _)
      | (with_reducible exact LeO.none _)
      | (with_reducible refine LeO.ite ?_ ?_)
      | (with_reducible refine LeO.bind ?_ (fun _ => ?_))
      | exact ih0 _ _ _
      | exact ih1 _ _ _
      | exact Giv.impl_CRANCompare.mono _ _ _
      | exact Giv.impl_CRANCompareText.mono _ _ _
      | exact laws_short.mono _ _
      | exact spec_CRANCompare.mono _ _ _
      | exact spec_CRANKnown.mono _ _
      | exact LeO.none _
      | refine LeO.ite ?_ ?_
      | refine LeO.bind ?_ (fun _ => ?_)
theorem laws_FnCRAN.mono : ∀ a0 a1 k, LeO (laws_FnCRAN.f k a0 a1) (laws_FnCRAN.f (k + 1) a0 a1) := by
  intro a0 a1 k
  obtain ⟨ih0, ih1⟩ := laws_FnCRAN.mono_l k
  unfold laws_FnCRAN.f
  repeat' first
      | (with_reducible exact ih0 _ _ _)
      | (with_reducible exact ih1 _ _ _)
      | (with_reducible exact Giv.impl_CRANCompare.mono _ _ _)
      | (with_reducible exact Giv.impl_CRANCompareText.mono _ _ _)
      | (with_reducible exact laws_short.mono _ _)
      | (with_reducible exact spec_CRANCompare.mono _ _ _)
      | (with_reducible exact spec_CRANKnown.mono _ _)
      | (with_reducible exact LeO.refl _)
      | (with_reducible exact LeO.none _)
      | (with_reducible refine LeO.ite ?_ ?_)
      | (with_reducible refine LeO.bind ?_ (fun _ => ?_))
      | exact ih0 _ _ _
      | exact ih1 _ _ _
      | exact Giv.impl_CRANCompare.mono _ _ _
      | exact Giv.impl_CRANCompareText.mono _ _ _
      | exact laws_short.mono _ _
      | exact spec_CRANCompare.mono _ _ _
      | exact spec_CRANKnown.mono _ _
      | exact LeO.none _
      | refine LeO.ite ?_ ?_
      | refine LeO.bind ?_ (fun _ => ?_)
set_option maxHeartbeats 8000000 in
set_option maxRecDepth 100000 in
theorem laws_FnCRAN.calls (k : Nat) (a0 : ByteArray) (a1 : ByteArray) (r : Bool) (w : World) (h : laws_FnCRAN.f k a0 a1 = some r) (hL : Giv.Laid w) :
    Calls Tryd.prog 9 #[.string a0, .string a1] w fun e w' => e = .returned (.bool r) ∧ Below w.heap.size w w' := by
  have HLd := Aside0.mk hL
  clear hL
  have HB := Aside0.mk (Below.refl w.heap.size w)
  have H : (if (a0.size : Int) > 2147483647 then (laws_FnCRAN.j0 k a0 a1 true) else (laws_FnCRAN.j0 k a0 a1 (decide ((a1.size : Int) > 2147483647)))) = some r := h
  clear h
  have HC3 := Aside0.mk H
  clear H
  go_enter Tryd.func9, Tryd.ntmps9
  go_upto_region 1 with (fail)
  go_cut [20] (fun v20 wc => ∃ (kq : Nat) (x20_2 : Bool), v20 = .bool x20_2 ∧ Aside0 (laws_FnCRAN.j0 kq a0 a1 x20_2 = some r) ∧ Aside0 (kq ≤ k) ∧ Aside0 (Below w.heap.size w wc))
  case first =>
    have H := HC3.out
    clear HC3
    by_cases c4 : (a0.size : Int) > 2147483647
    · rw [if_pos c4] at H
      have c4b0 : decide (2147483647 < (a0.size : Int)) = true := decide_eq_true c4
      have c4b1 : decide (2147483647 < a0.size) = true := decide_eq_true (by omega)
      clear c4
      (first | rw [c4b0] | (simp only [i64_w, i32_w]; rw [c4b0]) | skip)
      have H' := Aside0.mk H
      clear H
      go_wp2
      go_meet
      case rel => exact ⟨_, (true), (by first | rfl | (simp; done) | (simp [*]; done) | (simp [bne_nil_]; done)), H', ⟨by first | omega | exact Nat.le_refl _⟩, ⟨by repeat (first | (with_reducible first | exact HB.out | apply below_alloc | apply pw_below_drewN | apply below_drew1) | exact HB.out)⟩⟩
    · rw [if_neg c4] at H
      have c4b0 : decide (2147483647 < (a0.size : Int)) = false := decide_eq_false c4
      have c4b1 : decide (2147483647 < a0.size) = false := decide_eq_false (by omega)
      clear c4
      (first | rw [c4b0] | (simp only [i64_w, i32_w]; rw [c4b0]) | skip)
      have H' := Aside0.mk H
      clear H
      go_wp2
      go_meet
      case rel => exact ⟨_, (decide ((a1.size : Int) > 2147483647)), (by first | rfl | (simp; done) | (simp [*]; done) | (simp [bne_nil_]; done)), H', ⟨by first | omega | exact Nat.le_refl _⟩, ⟨by repeat (first | (with_reducible first | exact HB.out | apply below_alloc | apply pw_below_drewN | apply below_drew1) | exact HB.out)⟩⟩
  case rest =>
    clear HC3
    try clear p2
    try clear c4
    try clear c4b0
    try clear c4b1
    obtain ⟨kq, x20_2, rfl, HA, HJ2, HB⟩ := hcut
    cases kq with
    | zero => exact absurd HA.out (by simp [laws_FnCRAN.j0])
    | succ kj2 =>
      have H := HA.out
      clear HA
      simp only [laws_FnCRAN.j0] at H
      by_cases c5 : x20_2 = true
      · subst c5
        have H1 : (some true) = some r := by rw [if_pos rfl] at H; exact H
        clear H
        have H := H1
        clear H1
        obtain rfl := Option.some.inj H
        go_wp2
        go_ret
        exact ⟨by first | rfl | (simp [errW_none, errW_some] <;> rfl) | (simp [*, errW_none, errW_some] <;> rfl) | (simp [bne_nil_]; done), by repeat (first | (with_reducible first | exact HB.out | apply below_alloc | apply pw_below_drewN | apply below_drew1) | exact HB.out)⟩
      · replace c5 := Bool.eq_false_iff.mpr c5
        subst c5
        have H1 : ((laws_short.f kj2 (([a0, a1] : List ByteArray))).bind fun t159 => (if t159 = true then ((spec_CRANKnown.f kj2 a0).bind fun t160 => (if t160 = true then ((spec_CRANKnown.f kj2 a1).bind fun t161 => (laws_FnCRAN.j1 kj2 a0 a1 (!t161))) else (laws_FnCRAN.j1 kj2 a0 a1 true))) else (laws_FnCRAN.j1 kj2 a0 a1 true))) = some r := by rw [if_neg (show ¬ (false = true) by decide)] at H; exact H
        clear H
        have H := H1
        clear H1
        have HC6 := Aside0.mk H
        clear H
        go_upto_region 3 with (fail)
        go_cut [35] (fun v35 wc => ∃ (kq : Nat) (x35_5 : Bool), v35 = .bool x35_5 ∧ Aside0 (laws_FnCRAN.j1 kq a0 a1 x35_5 = some r) ∧ Aside0 (kq ≤ kj2) ∧ Aside0 (Below w.heap.size w wc))
        case first =>
          have H := HC6.out
          clear HC6
          obtain ⟨y156, hy156⟩ : ∃ y_ : List ByteArray, y_ = (([a0, a1] : List ByteArray)) := ⟨_, rfl⟩
          replace H : ((laws_short.f kj2 y156).bind fun t159 => (if t159 = true then ((spec_CRANKnown.f kj2 a0).bind fun t160 => (if t160 = true then ((spec_CRANKnown.f kj2 a1).bind fun t161 => (laws_FnCRAN.j1 kj2 a0 a1 (!t161))) else (laws_FnCRAN.j1 kj2 a0 a1 true))) else (laws_FnCRAN.j1 kj2 a0 a1 true))) = some r := by first | (rw [hy156]; with_reducible exact H) | (have H2_ := (Option.bind_some _ _).symm.trans H; rw [hy156]; with_reducible exact H2_) | (have H2_ := (Option.bind_some _ _).symm.trans H; with_reducible exact H2_) | with_reducible exact H | (rw [hy156]; exact H) | exact H
          have Ny156 := Aside0.mk hy156
          clear hy156
          replace H := Option.bind_eq_some_iff.mp H
          obtain ⟨t159, A70, H⟩ := H
          replace H : (if t159 = true then ((spec_CRANKnown.f kj2 a0).bind fun t160 => (if t160 = true then ((spec_CRANKnown.f kj2 a1).bind fun t161 => (laws_FnCRAN.j1 kj2 a0 a1 (!t161))) else (laws_FnCRAN.j1 kj2 a0 a1 true))) else (laws_FnCRAN.j1 kj2 a0 a1 true)) = some r := H
          have A7 := Aside0.mk A70
          clear A70
          by_cases c8 : t159 = true
          · subst c8
            have H1 : ((spec_CRANKnown.f kj2 a0).bind fun t160 => (if t160 = true then ((spec_CRANKnown.f kj2 a1).bind fun t161 => (laws_FnCRAN.j1 kj2 a0 a1 (!t161))) else (laws_FnCRAN.j1 kj2 a0 a1 true))) = some r := by rw [if_pos rfl] at H; exact H
            clear H
            have H := H1
            clear H1
            replace H := Option.bind_eq_some_iff.mp H
            obtain ⟨t160, A90, H⟩ := H
            replace H : (if t160 = true then ((spec_CRANKnown.f kj2 a1).bind fun t161 => (laws_FnCRAN.j1 kj2 a0 a1 (!t161))) else (laws_FnCRAN.j1 kj2 a0 a1 true)) = some r := H
            have A9 := Aside0.mk A90
            clear A90
            by_cases c10 : t160 = true
            · subst c10
              have H1 : ((spec_CRANKnown.f kj2 a1).bind fun t161 => (laws_FnCRAN.j1 kj2 a0 a1 (!t161))) = some r := by rw [if_pos rfl] at H; exact H
              clear H
              have H := H1
              clear H1
              replace H := Option.bind_eq_some_iff.mp H
              obtain ⟨t161, A110, H⟩ := H
              replace H : (laws_FnCRAN.j1 kj2 a0 a1 (!t161)) = some r := H
              have A11 := Aside0.mk A110
              clear A110
              have H' := Aside0.mk H
              clear H
              go_wp2_with (first | ((with_reducible refine gate_dst (N := 23) rfl ?_); (try (refine gate_guard (by rfl) ?_; dsimp only)); refine Kd.R_lit Kd.string _ 9 ?hg (N := 23) ?hd (xs := ([a0, a1] : List ByteArray)) (inner := [.string a0, .string a1]) (ok := fun _ => True) (okp := fun _ => True) ?hr ?hp (fun _ hk => hk) trivial (Below.refl _ _) (Nat.le_refl _) (by simp) ?_; (case hd => rfl); (case hg => rfl); (case hr => first | (go_simp; done) | (go_simp; rfl)); (case hp => exact (Reps.one (show Kd.M Kd.string _ _ _ a0 [.string a0] from rfl) (Reps.one (show Kd.M Kd.string _ _ _ a1 [.string a1] from rfl) (Reps.none _ _)))); intro v157 w12 ho13 hb hg_ hnew_; clear hg_ hnew_; (first | rw [← Ny156.out] at ho13 | (simp only [Int.reduceToNat] at ho13; rw [← Ny156.out] at ho13)); have n0_ := Aside0.mk (Kd.R_lower ho13 (below_size (by repeat (first | (with_reducible first | exact HB.out | apply below_alloc | apply pw_below_drewN | apply below_drew1) | exact HB.out)))); have n1_ := Aside0.mk (below_step (by repeat (first | (with_reducible first | exact HB.out | apply below_alloc | apply pw_below_drewN | apply below_drew1) | exact HB.out)) hb); clear HB; have HO158 := n0_; have HB := n1_; clear n0_ n1_; clear hb ho13; obtain ⟨Ao14, co14, eo14⟩ := Kd.R_slice HO158.out; subst eo14) | ((with_reducible refine gate_callee (f := 15) rfl ?_); refine goesL_ (some 24) rfl rfl Tryd.func15 (by kernel_rfl) rfl #[.slice Ao14 y156.length co14] rfl (by (try simp only [List.map_toArray, List.map_cons, List.map_nil]); first | done | rfl | (simp only [List.length_drop, List.length_take]; rfl)) ?_; (with_reducible refine (laws_short.calls kj2 _ _ y156 true _ ?side1 ?side2 A7.out).mono ?_); (case side1 => repeat (first | exact (Kd.R_reads' HO158.out).2.2 | (with_reducible refine Kd.C_alloc ?_ _) | (with_reducible refine Kd.C_drewN ?_ _) | (with_reducible refine Kd.C_drew ?_))); (case side2 => exact (Kd.R_reads' HO158.out).2.1); rintro e w' ⟨rfl, ⟨nd, rfl⟩⟩; refine ⟨_, rfl, ?_⟩) | (go_at_call 41; (with_reducible refine (spec_CRANKnown.calls kj2 a0 true _ A9.out).mono ?_); rintro e w' ⟨rfl, ⟨nd, rfl⟩⟩) | (go_at_call 41; (with_reducible refine (spec_CRANKnown.calls kj2 a1 t161 _ A11.out).mono ?_); rintro e w' ⟨rfl, ⟨nd, rfl⟩⟩))
              go_meet
              case rel => exact ⟨_, (!t161), (by first | rfl | (simp; done) | (simp [*]; done) | (simp [bne_nil_]; done)), H', ⟨by have := HJ2.out; first | omega | exact Nat.le_refl _⟩, ⟨by repeat (first | (with_reducible first | exact HB.out | apply below_alloc | apply pw_below_drewN | apply below_drew1) | exact HB.out)⟩⟩
            · replace c10 := Bool.eq_false_iff.mpr c10
              subst c10
              have H1 : (laws_FnCRAN.j1 kj2 a0 a1 true) = some r := by rw [if_neg (show ¬ (false = true) by decide)] at H; exact H
              clear H
              have H := H1
              clear H1
              have H' := Aside0.mk H
              clear H
              go_wp2_with (first | ((with_reducible refine gate_dst (N := 23) rfl ?_); (try (refine gate_guard (by rfl) ?_; dsimp only)); refine Kd.R_lit Kd.string _ 9 ?hg (N := 23) ?hd (xs := ([a0, a1] : List ByteArray)) (inner := [.string a0, .string a1]) (ok := fun _ => True) (okp := fun _ => True) ?hr ?hp (fun _ hk => hk) trivial (Below.refl _ _) (Nat.le_refl _) (by simp) ?_; (case hd => rfl); (case hg => rfl); (case hr => first | (go_simp; done) | (go_simp; rfl)); (case hp => exact (Reps.one (show Kd.M Kd.string _ _ _ a0 [.string a0] from rfl) (Reps.one (show Kd.M Kd.string _ _ _ a1 [.string a1] from rfl) (Reps.none _ _)))); intro v157 w15 ho16 hb hg_ hnew_; clear hg_ hnew_; (first | rw [← Ny156.out] at ho16 | (simp only [Int.reduceToNat] at ho16; rw [← Ny156.out] at ho16)); have n0_ := Aside0.mk (Kd.R_lower ho16 (below_size (by repeat (first | (with_reducible first | exact HB.out | apply below_alloc | apply pw_below_drewN | apply below_drew1) | exact HB.out)))); have n1_ := Aside0.mk (below_step (by repeat (first | (with_reducible first | exact HB.out | apply below_alloc | apply pw_below_drewN | apply below_drew1) | exact HB.out)) hb); clear HB; have HO158 := n0_; have HB := n1_; clear n0_ n1_; clear hb ho16; obtain ⟨Ao17, co17, eo17⟩ := Kd.R_slice HO158.out; subst eo17) | ((with_reducible refine gate_callee (f := 15) rfl ?_); refine goesL_ (some 24) rfl rfl Tryd.func15 (by kernel_rfl) rfl #[.slice Ao17 y156.length co17] rfl (by (try simp only [List.map_toArray, List.map_cons, List.map_nil]); first | done | rfl | (simp only [List.length_drop, List.length_take]; rfl)) ?_; (with_reducible refine (laws_short.calls kj2 _ _ y156 true _ ?side1 ?side2 A7.out).mono ?_); (case side1 => repeat (first | exact (Kd.R_reads' HO158.out).2.2 | (with_reducible refine Kd.C_alloc ?_ _) | (with_reducible refine Kd.C_drewN ?_ _) | (with_reducible refine Kd.C_drew ?_))); (case side2 => exact (Kd.R_reads' HO158.out).2.1); rintro e w' ⟨rfl, ⟨nd, rfl⟩⟩; refine ⟨_, rfl, ?_⟩) | (go_at_call 41; (with_reducible refine (spec_CRANKnown.calls kj2 a0 false _ A9.out).mono ?_); rintro e w' ⟨rfl, ⟨nd, rfl⟩⟩))
              go_meet
              case rel => exact ⟨_, (true), (by first | rfl | (simp; done) | (simp [*]; done) | (simp [bne_nil_]; done)), H', ⟨by have := HJ2.out; first | omega | exact Nat.le_refl _⟩, ⟨by repeat (first | (with_reducible first | exact HB.out | apply below_alloc | apply pw_below_drewN | apply below_drew1) | exact HB.out)⟩⟩
          · replace c8 := Bool.eq_false_iff.mpr c8
            subst c8
            have H1 : (laws_FnCRAN.j1 kj2 a0 a1 true) = some r := by rw [if_neg (show ¬ (false = true) by decide)] at H; exact H
            clear H
            have H := H1
            clear H1
            have H' := Aside0.mk H
            clear H
            go_wp2_with (first | ((with_reducible refine gate_dst (N := 23) rfl ?_); (try (refine gate_guard (by rfl) ?_; dsimp only)); refine Kd.R_lit Kd.string _ 9 ?hg (N := 23) ?hd (xs := ([a0, a1] : List ByteArray)) (inner := [.string a0, .string a1]) (ok := fun _ => True) (okp := fun _ => True) ?hr ?hp (fun _ hk => hk) trivial (Below.refl _ _) (Nat.le_refl _) (by simp) ?_; (case hd => rfl); (case hg => rfl); (case hr => first | (go_simp; done) | (go_simp; rfl)); (case hp => exact (Reps.one (show Kd.M Kd.string _ _ _ a0 [.string a0] from rfl) (Reps.one (show Kd.M Kd.string _ _ _ a1 [.string a1] from rfl) (Reps.none _ _)))); intro v157 w18 ho19 hb hg_ hnew_; clear hg_ hnew_; (first | rw [← Ny156.out] at ho19 | (simp only [Int.reduceToNat] at ho19; rw [← Ny156.out] at ho19)); have n0_ := Aside0.mk (Kd.R_lower ho19 (below_size (by repeat (first | (with_reducible first | exact HB.out | apply below_alloc | apply pw_below_drewN | apply below_drew1) | exact HB.out)))); have n1_ := Aside0.mk (below_step (by repeat (first | (with_reducible first | exact HB.out | apply below_alloc | apply pw_below_drewN | apply below_drew1) | exact HB.out)) hb); clear HB; have HO158 := n0_; have HB := n1_; clear n0_ n1_; clear hb ho19; obtain ⟨Ao20, co20, eo20⟩ := Kd.R_slice HO158.out; subst eo20) | ((with_reducible refine gate_callee (f := 15) rfl ?_); refine goesL_ (some 24) rfl rfl Tryd.func15 (by kernel_rfl) rfl #[.slice Ao20 y156.length co20] rfl (by (try simp only [List.map_toArray, List.map_cons, List.map_nil]); first | done | rfl | (simp only [List.length_drop, List.length_take]; rfl)) ?_; (with_reducible refine (laws_short.calls kj2 _ _ y156 false _ ?side1 ?side2 A7.out).mono ?_); (case side1 => repeat (first | exact (Kd.R_reads' HO158.out).2.2 | (with_reducible refine Kd.C_alloc ?_ _) | (with_reducible refine Kd.C_drewN ?_ _) | (with_reducible refine Kd.C_drew ?_))); (case side2 => exact (Kd.R_reads' HO158.out).2.1); rintro e w' ⟨rfl, ⟨nd, rfl⟩⟩; refine ⟨_, rfl, ?_⟩))
            go_meet
            case rel => exact ⟨_, (true), (by first | rfl | (simp; done) | (simp [*]; done) | (simp [bne_nil_]; done)), H', ⟨by have := HJ2.out; first | omega | exact Nat.le_refl _⟩, ⟨by repeat (first | (with_reducible first | exact HB.out | apply below_alloc | apply pw_below_drewN | apply below_drew1) | exact HB.out)⟩⟩
        case rest =>
          clear HC6
          try clear c1
          try clear p2
          try clear c4
          try clear c4b0
          try clear c4b1
          try clear c5
          try clear c8
          try clear c9
          try clear c10
          try clear c15
          try clear p2
          obtain ⟨kq, x35_5, rfl, HA, HJ5, HB⟩ := hcut
          cases kq with
          | zero => exact absurd HA.out (by simp [laws_FnCRAN.j1])
          | succ kj5 =>
            have H := HA.out
            clear HA
            simp only [laws_FnCRAN.j1] at H
            by_cases c21 : x35_5 = true
            · subst c21
              have H1 : (some true) = some r := by rw [if_pos rfl] at H; exact H
              clear H
              have H := H1
              clear H1
              obtain rfl := Option.some.inj H
              go_wp2
              go_ret
              exact ⟨by first | rfl | (simp [errW_none, errW_some] <;> rfl) | (simp [*, errW_none, errW_some] <;> rfl) | (simp [bne_nil_]; done), by repeat (first | (with_reducible first | exact HB.out | apply below_alloc | apply pw_below_drewN | apply below_drew1) | exact HB.out)⟩
            · replace c21 := Bool.eq_false_iff.mpr c21
              subst c21
              have H1 : ((spec_CRANCompare.f kj5 a0 a1).bind fun bt162 => ((Giv.impl_CRANCompare.f kj5 a0 a1).bind fun bt164 => ((Giv.impl_CRANCompareText.f kj5 a0 a1).bind fun bt166 => ((Giv.impl_CRANCompare.f kj5 a1 a0).bind fun bt168 => (if bt164.1 = bt162.1 then (if (bt164.2 == bt162.2) = true then (if bt166.1 = bt162.1 then (if (bt166.2 == bt162.2) = true then (if (bt168.2 == bt162.2) = true then ((laws_turned.f bt164.1 bt168.1).bind fun t170 => (some t170)) else (some false)) else (some false)) else (some false)) else (some false)) else (some false)))))) = some r := by rw [if_neg (show ¬ (false = true) by decide)] at H; exact H
              clear H
              have H := H1
              clear H1
              replace H := Option.bind_eq_some_iff.mp H
              obtain ⟨⟨t162, t163⟩, A220, H⟩ := H
              replace H : ((Giv.impl_CRANCompare.f kj5 a0 a1).bind fun bt164 => ((Giv.impl_CRANCompareText.f kj5 a0 a1).bind fun bt166 => ((Giv.impl_CRANCompare.f kj5 a1 a0).bind fun bt168 => (if bt164.1 = t162 then (if (bt164.2 == t163) = true then (if bt166.1 = t162 then (if (bt166.2 == t163) = true then (if (bt168.2 == t163) = true then ((laws_turned.f bt164.1 bt168.1).bind fun t170 => (some t170)) else (some false)) else (some false)) else (some false)) else (some false)) else (some false))))) = some r := H
              have A22 := Aside0.mk A220
              clear A220
              replace H := Option.bind_eq_some_iff.mp H
              obtain ⟨⟨t164, t165⟩, A230, H⟩ := H
              replace H : ((Giv.impl_CRANCompareText.f kj5 a0 a1).bind fun bt166 => ((Giv.impl_CRANCompare.f kj5 a1 a0).bind fun bt168 => (if t164 = t162 then (if (t165 == t163) = true then (if bt166.1 = t162 then (if (bt166.2 == t163) = true then (if (bt168.2 == t163) = true then ((laws_turned.f t164 bt168.1).bind fun t170 => (some t170)) else (some false)) else (some false)) else (some false)) else (some false)) else (some false)))) = some r := H
              have A23 := Aside0.mk A230
              clear A230
              replace H := Option.bind_eq_some_iff.mp H
              obtain ⟨⟨t166, t167⟩, A240, H⟩ := H
              replace H : ((Giv.impl_CRANCompare.f kj5 a1 a0).bind fun bt168 => (if t164 = t162 then (if (t165 == t163) = true then (if t166 = t162 then (if (t167 == t163) = true then (if (bt168.2 == t163) = true then ((laws_turned.f t164 bt168.1).bind fun t170 => (some t170)) else (some false)) else (some false)) else (some false)) else (some false)) else (some false))) = some r := H
              have A24 := Aside0.mk A240
              clear A240
              replace H := Option.bind_eq_some_iff.mp H
              obtain ⟨⟨t168, t169⟩, A250, H⟩ := H
              replace H : (if t164 = t162 then (if (t165 == t163) = true then (if t166 = t162 then (if (t167 == t163) = true then (if (t169 == t163) = true then ((laws_turned.f t164 t168).bind fun t170 => (some t170)) else (some false)) else (some false)) else (some false)) else (some false)) else (some false)) = some r := H
              have A25 := Aside0.mk A250
              clear A250
              by_cases c26 : t164 = t162
              · rw [if_pos c26] at H
                have c26b0 : (t164 == t162) = true := beq_iff_eq.mpr c26
                have c26b1 : (t164 != t162) = false := bne_eq_false_iff_eq.mpr c26
                clear c26
                by_cases c27 : (t165 == t163) = true
                · rw [if_pos c27] at H
                  have c27b0 : (t165 == t163) = true := c27
                  (try (have c27b1 : decide (t165 = t163) = true := by simpa using c27))
                  (try (have c27b2 : (t165 == t163) = true := by simpa using c27))
                  clear c27
                  by_cases c28 : t166 = t162
                  · rw [if_pos c28] at H
                    have c28b0 : (t166 == t162) = true := beq_iff_eq.mpr c28
                    have c28b1 : (t166 != t162) = false := bne_eq_false_iff_eq.mpr c28
                    clear c28
                    by_cases c29 : (t167 == t163) = true
                    · rw [if_pos c29] at H
                      have c29b0 : (t167 == t163) = true := c29
                      (try (have c29b1 : decide (t167 = t163) = true := by simpa using c29))
                      (try (have c29b2 : (t167 == t163) = true := by simpa using c29))
                      clear c29
                      by_cases c30 : (t169 == t163) = true
                      · rw [if_pos c30] at H
                        have c30b0 : (t169 == t163) = true := c30
                        (try (have c30b1 : decide (t169 = t163) = true := by simpa using c30))
                        (try (have c30b2 : (t169 == t163) = true := by simpa using c30))
                        clear c30
                        replace H := Option.bind_eq_some_iff.mp H
                        obtain ⟨t170, A310, H⟩ := H
                        replace H : (some t170) = some r := H
                        have A31 := Aside0.mk A310
                        clear A310
                        obtain rfl := Option.some.inj H
                        go_wp2_with (first | ((with_reducible refine gate_callee (f := 42) rfl ?_); refine goesL_ (some 39) rfl rfl Tryd.func42 (by kernel_rfl) rfl #[.string a0, .string a1] rfl (by (try simp only [List.map_toArray, List.map_cons, List.map_nil]); first | done | rfl | (simp only [List.length_drop, List.length_take]; rfl)) ?_; (with_reducible refine (spec_CRANCompare.calls kj5 a0 a1 t162 t163 _ A22.out).mono ?_); rintro e w32 ⟨rfl, hb⟩; refine ⟨_, rfl, ?_⟩; have n0_ := Aside0.mk (below_step (by repeat (first | (with_reducible first | exact HB.out | apply below_alloc | apply pw_below_drewN | apply below_drew1) | exact HB.out)) hb); clear HB; have HB := n0_; clear n0_; (try clear hb); (try clear hb2); (try clear hk); (try clear hi)) | ((with_reducible refine gate_callee (f := 43) rfl ?_); refine goesL_ (some 45) rfl rfl Tryd.func43 (by kernel_rfl) rfl #[.string a0, .string a1] rfl (by (try simp only [List.map_toArray, List.map_cons, List.map_nil]); first | done | rfl | (simp only [List.length_drop, List.length_take]; rfl)) ?_; (with_reducible refine (Giv.impl_CRANCompare.calls kj5 a0 a1 t164 t165 _ A23.out (HLd.out.below (by repeat (first | (with_reducible first | exact HB.out | apply below_alloc | apply pw_below_drewN | apply below_drew1) | exact HB.out)))).mono ?_); rintro e w33 ⟨rfl, hb⟩; refine ⟨_, rfl, ?_⟩; have n0_ := Aside0.mk (below_step (by repeat (first | (with_reducible first | exact HB.out | apply below_alloc | apply pw_below_drewN | apply below_drew1) | exact HB.out)) hb); clear HB; have HB := n0_; clear n0_; (try clear hb); (try clear hb2); (try clear hk); (try clear hi)) | ((with_reducible refine gate_callee (f := 44) rfl ?_); refine goesL_ (some 51) rfl rfl Tryd.func44 (by kernel_rfl) rfl #[.string a0, .string a1] rfl (by (try simp only [List.map_toArray, List.map_cons, List.map_nil]); first | done | rfl | (simp only [List.length_drop, List.length_take]; rfl)) ?_; (with_reducible refine (Giv.impl_CRANCompareText.calls kj5 a0 a1 t166 t167 _ A24.out (HLd.out.below (by repeat (first | (with_reducible first | exact HB.out | apply below_alloc | apply pw_below_drewN | apply below_drew1) | exact HB.out)))).mono ?_); rintro e w34 ⟨rfl, hb⟩; refine ⟨_, rfl, ?_⟩; have n0_ := Aside0.mk (below_step (by repeat (first | (with_reducible first | exact HB.out | apply below_alloc | apply pw_below_drewN | apply below_drew1) | exact HB.out)) hb); clear HB; have HB := n0_; clear n0_; (try clear hb); (try clear hb2); (try clear hk); (try clear hi)) | ((with_reducible refine gate_callee (f := 43) rfl ?_); refine goesL_ (some 57) rfl rfl Tryd.func43 (by kernel_rfl) rfl #[.string a1, .string a0] rfl (by (try simp only [List.map_toArray, List.map_cons, List.map_nil]); first | done | rfl | (simp only [List.length_drop, List.length_take]; rfl)) ?_; (with_reducible refine (Giv.impl_CRANCompare.calls kj5 a1 a0 t168 t169 _ A25.out (HLd.out.below (by repeat (first | (with_reducible first | exact HB.out | apply below_alloc | apply pw_below_drewN | apply below_drew1) | exact HB.out)))).mono ?_); rintro e w35 ⟨rfl, hb⟩; refine ⟨_, rfl, ?_⟩; have n0_ := Aside0.mk (below_step (by repeat (first | (with_reducible first | exact HB.out | apply below_alloc | apply pw_below_drewN | apply below_drew1) | exact HB.out)) hb); clear HB; have HB := n0_; clear n0_; (try clear hb); (try clear hb2); (try clear hk); (try clear hi)) | (go_at_call 35; (with_reducible refine (laws_turned.calls t164 t168 t170 _ A31.out).mono ?_); rintro e w' ⟨rfl, ⟨nd, rfl⟩⟩))
                        go_ret
                        exact ⟨by first | rfl | (simp [errW_none, errW_some] <;> rfl) | (simp [*, errW_none, errW_some] <;> rfl) | (simp [bne_nil_]; done), by repeat (first | (with_reducible first | exact HB.out | apply below_alloc | apply pw_below_drewN | apply below_drew1) | exact HB.out)⟩
                      · rw [if_neg c30] at H
                        have c30b0 : (t169 == t163) = false := by simpa using c30
                        (try (have c30b1 : decide (t169 = t163) = false := by simpa using c30))
                        (try (have c30b2 : (t169 == t163) = false := by simpa using c30))
                        (try (have c30b3 : ¬ (t169 = t163) := by simpa using c30))
                        clear c30
                        obtain rfl := Option.some.inj H
                        go_wp2_with (first | ((with_reducible refine gate_callee (f := 42) rfl ?_); refine goesL_ (some 39) rfl rfl Tryd.func42 (by kernel_rfl) rfl #[.string a0, .string a1] rfl (by (try simp only [List.map_toArray, List.map_cons, List.map_nil]); first | done | rfl | (simp only [List.length_drop, List.length_take]; rfl)) ?_; (with_reducible refine (spec_CRANCompare.calls kj5 a0 a1 t162 t163 _ A22.out).mono ?_); rintro e w36 ⟨rfl, hb⟩; refine ⟨_, rfl, ?_⟩; have n0_ := Aside0.mk (below_step (by repeat (first | (with_reducible first | exact HB.out | apply below_alloc | apply pw_below_drewN | apply below_drew1) | exact HB.out)) hb); clear HB; have HB := n0_; clear n0_; (try clear hb); (try clear hb2); (try clear hk); (try clear hi)) | ((with_reducible refine gate_callee (f := 43) rfl ?_); refine goesL_ (some 45) rfl rfl Tryd.func43 (by kernel_rfl) rfl #[.string a0, .string a1] rfl (by (try simp only [List.map_toArray, List.map_cons, List.map_nil]); first | done | rfl | (simp only [List.length_drop, List.length_take]; rfl)) ?_; (with_reducible refine (Giv.impl_CRANCompare.calls kj5 a0 a1 t164 t165 _ A23.out (HLd.out.below (by repeat (first | (with_reducible first | exact HB.out | apply below_alloc | apply pw_below_drewN | apply below_drew1) | exact HB.out)))).mono ?_); rintro e w37 ⟨rfl, hb⟩; refine ⟨_, rfl, ?_⟩; have n0_ := Aside0.mk (below_step (by repeat (first | (with_reducible first | exact HB.out | apply below_alloc | apply pw_below_drewN | apply below_drew1) | exact HB.out)) hb); clear HB; have HB := n0_; clear n0_; (try clear hb); (try clear hb2); (try clear hk); (try clear hi)) | ((with_reducible refine gate_callee (f := 44) rfl ?_); refine goesL_ (some 51) rfl rfl Tryd.func44 (by kernel_rfl) rfl #[.string a0, .string a1] rfl (by (try simp only [List.map_toArray, List.map_cons, List.map_nil]); first | done | rfl | (simp only [List.length_drop, List.length_take]; rfl)) ?_; (with_reducible refine (Giv.impl_CRANCompareText.calls kj5 a0 a1 t166 t167 _ A24.out (HLd.out.below (by repeat (first | (with_reducible first | exact HB.out | apply below_alloc | apply pw_below_drewN | apply below_drew1) | exact HB.out)))).mono ?_); rintro e w38 ⟨rfl, hb⟩; refine ⟨_, rfl, ?_⟩; have n0_ := Aside0.mk (below_step (by repeat (first | (with_reducible first | exact HB.out | apply below_alloc | apply pw_below_drewN | apply below_drew1) | exact HB.out)) hb); clear HB; have HB := n0_; clear n0_; (try clear hb); (try clear hb2); (try clear hk); (try clear hi)) | ((with_reducible refine gate_callee (f := 43) rfl ?_); refine goesL_ (some 57) rfl rfl Tryd.func43 (by kernel_rfl) rfl #[.string a1, .string a0] rfl (by (try simp only [List.map_toArray, List.map_cons, List.map_nil]); first | done | rfl | (simp only [List.length_drop, List.length_take]; rfl)) ?_; (with_reducible refine (Giv.impl_CRANCompare.calls kj5 a1 a0 t168 t169 _ A25.out (HLd.out.below (by repeat (first | (with_reducible first | exact HB.out | apply below_alloc | apply pw_below_drewN | apply below_drew1) | exact HB.out)))).mono ?_); rintro e w39 ⟨rfl, hb⟩; refine ⟨_, rfl, ?_⟩; have n0_ := Aside0.mk (below_step (by repeat (first | (with_reducible first | exact HB.out | apply below_alloc | apply pw_below_drewN | apply below_drew1) | exact HB.out)) hb); clear HB; have HB := n0_; clear n0_; (try clear hb); (try clear hb2); (try clear hk); (try clear hi)))
                        go_ret
                        exact ⟨by first | rfl | (simp [errW_none, errW_some] <;> rfl) | (simp [*, errW_none, errW_some] <;> rfl) | (simp [bne_nil_]; done), by repeat (first | (with_reducible first | exact HB.out | apply below_alloc | apply pw_below_drewN | apply below_drew1) | exact HB.out)⟩
                    · rw [if_neg c29] at H
                      have c29b0 : (t167 == t163) = false := by simpa using c29
                      (try (have c29b1 : decide (t167 = t163) = false := by simpa using c29))
                      (try (have c29b2 : (t167 == t163) = false := by simpa using c29))
                      (try (have c29b3 : ¬ (t167 = t163) := by simpa using c29))
                      clear c29
                      obtain rfl := Option.some.inj H
                      go_wp2_with (first | ((with_reducible refine gate_callee (f := 42) rfl ?_); refine goesL_ (some 39) rfl rfl Tryd.func42 (by kernel_rfl) rfl #[.string a0, .string a1] rfl (by (try simp only [List.map_toArray, List.map_cons, List.map_nil]); first | done | rfl | (simp only [List.length_drop, List.length_take]; rfl)) ?_; (with_reducible refine (spec_CRANCompare.calls kj5 a0 a1 t162 t163 _ A22.out).mono ?_); rintro e w40 ⟨rfl, hb⟩; refine ⟨_, rfl, ?_⟩; have n0_ := Aside0.mk (below_step (by repeat (first | (with_reducible first | exact HB.out | apply below_alloc | apply pw_below_drewN | apply below_drew1) | exact HB.out)) hb); clear HB; have HB := n0_; clear n0_; (try clear hb); (try clear hb2); (try clear hk); (try clear hi)) | ((with_reducible refine gate_callee (f := 43) rfl ?_); refine goesL_ (some 45) rfl rfl Tryd.func43 (by kernel_rfl) rfl #[.string a0, .string a1] rfl (by (try simp only [List.map_toArray, List.map_cons, List.map_nil]); first | done | rfl | (simp only [List.length_drop, List.length_take]; rfl)) ?_; (with_reducible refine (Giv.impl_CRANCompare.calls kj5 a0 a1 t164 t165 _ A23.out (HLd.out.below (by repeat (first | (with_reducible first | exact HB.out | apply below_alloc | apply pw_below_drewN | apply below_drew1) | exact HB.out)))).mono ?_); rintro e w41 ⟨rfl, hb⟩; refine ⟨_, rfl, ?_⟩; have n0_ := Aside0.mk (below_step (by repeat (first | (with_reducible first | exact HB.out | apply below_alloc | apply pw_below_drewN | apply below_drew1) | exact HB.out)) hb); clear HB; have HB := n0_; clear n0_; (try clear hb); (try clear hb2); (try clear hk); (try clear hi)) | ((with_reducible refine gate_callee (f := 44) rfl ?_); refine goesL_ (some 51) rfl rfl Tryd.func44 (by kernel_rfl) rfl #[.string a0, .string a1] rfl (by (try simp only [List.map_toArray, List.map_cons, List.map_nil]); first | done | rfl | (simp only [List.length_drop, List.length_take]; rfl)) ?_; (with_reducible refine (Giv.impl_CRANCompareText.calls kj5 a0 a1 t166 t167 _ A24.out (HLd.out.below (by repeat (first | (with_reducible first | exact HB.out | apply below_alloc | apply pw_below_drewN | apply below_drew1) | exact HB.out)))).mono ?_); rintro e w42 ⟨rfl, hb⟩; refine ⟨_, rfl, ?_⟩; have n0_ := Aside0.mk (below_step (by repeat (first | (with_reducible first | exact HB.out | apply below_alloc | apply pw_below_drewN | apply below_drew1) | exact HB.out)) hb); clear HB; have HB := n0_; clear n0_; (try clear hb); (try clear hb2); (try clear hk); (try clear hi)) | ((with_reducible refine gate_callee (f := 43) rfl ?_); refine goesL_ (some 57) rfl rfl Tryd.func43 (by kernel_rfl) rfl #[.string a1, .string a0] rfl (by (try simp only [List.map_toArray, List.map_cons, List.map_nil]); first | done | rfl | (simp only [List.length_drop, List.length_take]; rfl)) ?_; (with_reducible refine (Giv.impl_CRANCompare.calls kj5 a1 a0 t168 t169 _ A25.out (HLd.out.below (by repeat (first | (with_reducible first | exact HB.out | apply below_alloc | apply pw_below_drewN | apply below_drew1) | exact HB.out)))).mono ?_); rintro e w43 ⟨rfl, hb⟩; refine ⟨_, rfl, ?_⟩; have n0_ := Aside0.mk (below_step (by repeat (first | (with_reducible first | exact HB.out | apply below_alloc | apply pw_below_drewN | apply below_drew1) | exact HB.out)) hb); clear HB; have HB := n0_; clear n0_; (try clear hb); (try clear hb2); (try clear hk); (try clear hi)))
                      go_ret
                      exact ⟨by first | rfl | (simp [errW_none, errW_some] <;> rfl) | (simp [*, errW_none, errW_some] <;> rfl) | (simp [bne_nil_]; done), by repeat (first | (with_reducible first | exact HB.out | apply below_alloc | apply pw_below_drewN | apply below_drew1) | exact HB.out)⟩
                  · rw [if_neg c28] at H
                    have c28b0 : (t166 == t162) = false := beq_eq_false_iff_ne.mpr c28
                    have c28b1 : (t166 != t162) = true := bne_iff_ne.mpr c28
                    obtain rfl := Option.some.inj H
                    go_wp2_with (first | ((with_reducible refine gate_callee (f := 42) rfl ?_); refine goesL_ (some 39) rfl rfl Tryd.func42 (by kernel_rfl) rfl #[.string a0, .string a1] rfl (by (try simp only [List.map_toArray, List.map_cons, List.map_nil]); first | done | rfl | (simp only [List.length_drop, List.length_take]; rfl)) ?_; (with_reducible refine (spec_CRANCompare.calls kj5 a0 a1 t162 t163 _ A22.out).mono ?_); rintro e w44 ⟨rfl, hb⟩; refine ⟨_, rfl, ?_⟩; have n0_ := Aside0.mk (below_step (by repeat (first | (with_reducible first | exact HB.out | apply below_alloc | apply pw_below_drewN | apply below_drew1) | exact HB.out)) hb); clear HB; have HB := n0_; clear n0_; (try clear hb); (try clear hb2); (try clear hk); (try clear hi)) | ((with_reducible refine gate_callee (f := 43) rfl ?_); refine goesL_ (some 45) rfl rfl Tryd.func43 (by kernel_rfl) rfl #[.string a0, .string a1] rfl (by (try simp only [List.map_toArray, List.map_cons, List.map_nil]); first | done | rfl | (simp only [List.length_drop, List.length_take]; rfl)) ?_; (with_reducible refine (Giv.impl_CRANCompare.calls kj5 a0 a1 t164 t165 _ A23.out (HLd.out.below (by repeat (first | (with_reducible first | exact HB.out | apply below_alloc | apply pw_below_drewN | apply below_drew1) | exact HB.out)))).mono ?_); rintro e w45 ⟨rfl, hb⟩; refine ⟨_, rfl, ?_⟩; have n0_ := Aside0.mk (below_step (by repeat (first | (with_reducible first | exact HB.out | apply below_alloc | apply pw_below_drewN | apply below_drew1) | exact HB.out)) hb); clear HB; have HB := n0_; clear n0_; (try clear hb); (try clear hb2); (try clear hk); (try clear hi)) | ((with_reducible refine gate_callee (f := 44) rfl ?_); refine goesL_ (some 51) rfl rfl Tryd.func44 (by kernel_rfl) rfl #[.string a0, .string a1] rfl (by (try simp only [List.map_toArray, List.map_cons, List.map_nil]); first | done | rfl | (simp only [List.length_drop, List.length_take]; rfl)) ?_; (with_reducible refine (Giv.impl_CRANCompareText.calls kj5 a0 a1 t166 t167 _ A24.out (HLd.out.below (by repeat (first | (with_reducible first | exact HB.out | apply below_alloc | apply pw_below_drewN | apply below_drew1) | exact HB.out)))).mono ?_); rintro e w46 ⟨rfl, hb⟩; refine ⟨_, rfl, ?_⟩; have n0_ := Aside0.mk (below_step (by repeat (first | (with_reducible first | exact HB.out | apply below_alloc | apply pw_below_drewN | apply below_drew1) | exact HB.out)) hb); clear HB; have HB := n0_; clear n0_; (try clear hb); (try clear hb2); (try clear hk); (try clear hi)) | ((with_reducible refine gate_callee (f := 43) rfl ?_); refine goesL_ (some 57) rfl rfl Tryd.func43 (by kernel_rfl) rfl #[.string a1, .string a0] rfl (by (try simp only [List.map_toArray, List.map_cons, List.map_nil]); first | done | rfl | (simp only [List.length_drop, List.length_take]; rfl)) ?_; (with_reducible refine (Giv.impl_CRANCompare.calls kj5 a1 a0 t168 t169 _ A25.out (HLd.out.below (by repeat (first | (with_reducible first | exact HB.out | apply below_alloc | apply pw_below_drewN | apply below_drew1) | exact HB.out)))).mono ?_); rintro e w47 ⟨rfl, hb⟩; refine ⟨_, rfl, ?_⟩; have n0_ := Aside0.mk (below_step (by repeat (first | (with_reducible first | exact HB.out | apply below_alloc | apply pw_below_drewN | apply below_drew1) | exact HB.out)) hb); clear HB; have HB := n0_; clear n0_; (try clear hb); (try clear hb2); (try clear hk); (try clear hi)))
                    go_ret
                    exact ⟨by first | rfl | (simp [errW_none, errW_some] <;> rfl) | (simp [*, errW_none, errW_some] <;> rfl) | (simp [bne_nil_]; done), by repeat (first | (with_reducible first | exact HB.out | apply below_alloc | apply pw_below_drewN | apply below_drew1) | exact HB.out)⟩
                · rw [if_neg c27] at H
                  have c27b0 : (t165 == t163) = false := by simpa using c27
                  (try (have c27b1 : decide (t165 = t163) = false := by simpa using c27))
                  (try (have c27b2 : (t165 == t163) = false := by simpa using c27))
                  (try (have c27b3 : ¬ (t165 = t163) := by simpa using c27))
                  clear c27
                  obtain rfl := Option.some.inj H
                  go_wp2_with (first | ((with_reducible refine gate_callee (f := 42) rfl ?_); refine goesL_ (some 39) rfl rfl Tryd.func42 (by kernel_rfl) rfl #[.string a0, .string a1] rfl (by (try simp only [List.map_toArray, List.map_cons, List.map_nil]); first | done | rfl | (simp only [List.length_drop, List.length_take]; rfl)) ?_; (with_reducible refine (spec_CRANCompare.calls kj5 a0 a1 t162 t163 _ A22.out).mono ?_); rintro e w48 ⟨rfl, hb⟩; refine ⟨_, rfl, ?_⟩; have n0_ := Aside0.mk (below_step (by repeat (first | (with_reducible first | exact HB.out | apply below_alloc | apply pw_below_drewN | apply below_drew1) | exact HB.out)) hb); clear HB; have HB := n0_; clear n0_; (try clear hb); (try clear hb2); (try clear hk); (try clear hi)) | ((with_reducible refine gate_callee (f := 43) rfl ?_); refine goesL_ (some 45) rfl rfl Tryd.func43 (by kernel_rfl) rfl #[.string a0, .string a1] rfl (by (try simp only [List.map_toArray, List.map_cons, List.map_nil]); first | done | rfl | (simp only [List.length_drop, List.length_take]; rfl)) ?_; (with_reducible refine (Giv.impl_CRANCompare.calls kj5 a0 a1 t164 t165 _ A23.out (HLd.out.below (by repeat (first | (with_reducible first | exact HB.out | apply below_alloc | apply pw_below_drewN | apply below_drew1) | exact HB.out)))).mono ?_); rintro e w49 ⟨rfl, hb⟩; refine ⟨_, rfl, ?_⟩; have n0_ := Aside0.mk (below_step (by repeat (first | (with_reducible first | exact HB.out | apply below_alloc | apply pw_below_drewN | apply below_drew1) | exact HB.out)) hb); clear HB; have HB := n0_; clear n0_; (try clear hb); (try clear hb2); (try clear hk); (try clear hi)) | ((with_reducible refine gate_callee (f := 44) rfl ?_); refine goesL_ (some 51) rfl rfl Tryd.func44 (by kernel_rfl) rfl #[.string a0, .string a1] rfl (by (try simp only [List.map_toArray, List.map_cons, List.map_nil]); first | done | rfl | (simp only [List.length_drop, List.length_take]; rfl)) ?_; (with_reducible refine (Giv.impl_CRANCompareText.calls kj5 a0 a1 t166 t167 _ A24.out (HLd.out.below (by repeat (first | (with_reducible first | exact HB.out | apply below_alloc | apply pw_below_drewN | apply below_drew1) | exact HB.out)))).mono ?_); rintro e w50 ⟨rfl, hb⟩; refine ⟨_, rfl, ?_⟩; have n0_ := Aside0.mk (below_step (by repeat (first | (with_reducible first | exact HB.out | apply below_alloc | apply pw_below_drewN | apply below_drew1) | exact HB.out)) hb); clear HB; have HB := n0_; clear n0_; (try clear hb); (try clear hb2); (try clear hk); (try clear hi)) | ((with_reducible refine gate_callee (f := 43) rfl ?_); refine goesL_ (some 57) rfl rfl Tryd.func43 (by kernel_rfl) rfl #[.string a1, .string a0] rfl (by (try simp only [List.map_toArray, List.map_cons, List.map_nil]); first | done | rfl | (simp only [List.length_drop, List.length_take]; rfl)) ?_; (with_reducible refine (Giv.impl_CRANCompare.calls kj5 a1 a0 t168 t169 _ A25.out (HLd.out.below (by repeat (first | (with_reducible first | exact HB.out | apply below_alloc | apply pw_below_drewN | apply below_drew1) | exact HB.out)))).mono ?_); rintro e w51 ⟨rfl, hb⟩; refine ⟨_, rfl, ?_⟩; have n0_ := Aside0.mk (below_step (by repeat (first | (with_reducible first | exact HB.out | apply below_alloc | apply pw_below_drewN | apply below_drew1) | exact HB.out)) hb); clear HB; have HB := n0_; clear n0_; (try clear hb); (try clear hb2); (try clear hk); (try clear hi)))
                  go_ret
                  exact ⟨by first | rfl | (simp [errW_none, errW_some] <;> rfl) | (simp [*, errW_none, errW_some] <;> rfl) | (simp [bne_nil_]; done), by repeat (first | (with_reducible first | exact HB.out | apply below_alloc | apply pw_below_drewN | apply below_drew1) | exact HB.out)⟩
              · rw [if_neg c26] at H
                have c26b0 : (t164 == t162) = false := beq_eq_false_iff_ne.mpr c26
                have c26b1 : (t164 != t162) = true := bne_iff_ne.mpr c26
                obtain rfl := Option.some.inj H
                go_wp2_with (first | ((with_reducible refine gate_callee (f := 42) rfl ?_); refine goesL_ (some 39) rfl rfl Tryd.func42 (by kernel_rfl) rfl #[.string a0, .string a1] rfl (by (try simp only [List.map_toArray, List.map_cons, List.map_nil]); first | done | rfl | (simp only [List.length_drop, List.length_take]; rfl)) ?_; (with_reducible refine (spec_CRANCompare.calls kj5 a0 a1 t162 t163 _ A22.out).mono ?_); rintro e w52 ⟨rfl, hb⟩; refine ⟨_, rfl, ?_⟩; have n0_ := Aside0.mk (below_step (by repeat (first | (with_reducible first | exact HB.out | apply below_alloc | apply pw_below_drewN | apply below_drew1) | exact HB.out)) hb); clear HB; have HB := n0_; clear n0_; (try clear hb); (try clear hb2); (try clear hk); (try clear hi)) | ((with_reducible refine gate_callee (f := 43) rfl ?_); refine goesL_ (some 45) rfl rfl Tryd.func43 (by kernel_rfl) rfl #[.string a0, .string a1] rfl (by (try simp only [List.map_toArray, List.map_cons, List.map_nil]); first | done | rfl | (simp only [List.length_drop, List.length_take]; rfl)) ?_; (with_reducible refine (Giv.impl_CRANCompare.calls kj5 a0 a1 t164 t165 _ A23.out (HLd.out.below (by repeat (first | (with_reducible first | exact HB.out | apply below_alloc | apply pw_below_drewN | apply below_drew1) | exact HB.out)))).mono ?_); rintro e w53 ⟨rfl, hb⟩; refine ⟨_, rfl, ?_⟩; have n0_ := Aside0.mk (below_step (by repeat (first | (with_reducible first | exact HB.out | apply below_alloc | apply pw_below_drewN | apply below_drew1) | exact HB.out)) hb); clear HB; have HB := n0_; clear n0_; (try clear hb); (try clear hb2); (try clear hk); (try clear hi)) | ((with_reducible refine gate_callee (f := 44) rfl ?_); refine goesL_ (some 51) rfl rfl Tryd.func44 (by kernel_rfl) rfl #[.string a0, .string a1] rfl (by (try simp only [List.map_toArray, List.map_cons, List.map_nil]); first | done | rfl | (simp only [List.length_drop, List.length_take]; rfl)) ?_; (with_reducible refine (Giv.impl_CRANCompareText.calls kj5 a0 a1 t166 t167 _ A24.out (HLd.out.below (by repeat (first | (with_reducible first | exact HB.out | apply below_alloc | apply pw_below_drewN | apply below_drew1) | exact HB.out)))).mono ?_); rintro e w54 ⟨rfl, hb⟩; refine ⟨_, rfl, ?_⟩; have n0_ := Aside0.mk (below_step (by repeat (first | (with_reducible first | exact HB.out | apply below_alloc | apply pw_below_drewN | apply below_drew1) | exact HB.out)) hb); clear HB; have HB := n0_; clear n0_; (try clear hb); (try clear hb2); (try clear hk); (try clear hi)) | ((with_reducible refine gate_callee (f := 43) rfl ?_); refine goesL_ (some 57) rfl rfl Tryd.func43 (by kernel_rfl) rfl #[.string a1, .string a0] rfl (by (try simp only [List.map_toArray, List.map_cons, List.map_nil]); first | done | rfl | (simp only [List.length_drop, List.length_take]; rfl)) ?_; (with_reducible refine (Giv.impl_CRANCompare.calls kj5 a1 a0 t168 t169 _ A25.out (HLd.out.below (by repeat (first | (with_reducible first | exact HB.out | apply below_alloc | apply pw_below_drewN | apply below_drew1) | exact HB.out)))).mono ?_); rintro e w55 ⟨rfl, hb⟩; refine ⟨_, rfl, ?_⟩; have n0_ := Aside0.mk (below_step (by repeat (first | (with_reducible first | exact HB.out | apply below_alloc | apply pw_below_drewN | apply below_drew1) | exact HB.out)) hb); clear HB; have HB := n0_; clear n0_; (try clear hb); (try clear hb2); (try clear hk); (try clear hi)))
                go_ret
                exact ⟨by first | rfl | (simp [errW_none, errW_some] <;> rfl) | (simp [*, errW_none, errW_some] <;> rfl) | (simp [bne_nil_]; done), by repeat (first | (with_reducible first | exact HB.out | apply below_alloc | apply pw_below_drewN | apply below_drew1) | exact HB.out)⟩

/-- THE ONE PURE STATEMENT of laws_FnCRAN: yours. -/
def laws_FnCRAN.Pure : Prop := ∀ (a0 : ByteArray) (a1 : ByteArray), a0.size ≤ 140737488351232 → a1.size ≤ 140737488351232 → ∃ k, laws_FnCRAN.f k a0 a1 = some true

end Go.Proofs.YtchbfjjeodnocaaDoor.QJ
