-- Written by a working copy of the kit's print program, turned at a few places by wip/tool/mkprint.py. Lean checks it.
import Derived.Test.YtmbgkdklgdkikaaDoorQPx0
namespace Go.Proofs.YtmbgkdklgdkikaaDoor.QP
open Go.RowKit Go.Proofs.YtmbgkdklgdkikaaDoorW.PrintWords Go.Proofs.YtmbgkdklgdkikaaDoorW.PrintLast Go.Proofs.YtmbgkdklgdkikaaDoorW.PrintMore
attribute [local go_sem] max2_int min2_int max_two min_two max_three min_three max_four min_four   -- for this text's walks alone
set_option linter.unusedVariables false
set_option linter.unusedSimpArgs false

/-! ### spec_numTidy: function 19 -/
def spec_numTidy.l0 : Nat → Bool → ByteArray → Option (Bool × ByteArray)
  | 0, _, _ => none
  | k + 1, x129000, x129001 => if (x129001.size : Int) > 0 then (if 0 < (x129001.size : Int) then (if (bt x129001 0) = 0 then (if 1 ≤ (x129001.size : Int) then (spec_numTidy.l0 k x129000 (x129001.extract 1 x129001.size)) else (none)) else (if x129000 = true then (some ((x129001.toList != ([] : List UInt8)), x129001)) else (some (false, x129001)))) else (none)) else (if x129000 = true then (some ((x129001.toList != ([] : List UInt8)), x129001)) else (some (false, x129001)))
def spec_numTidy.f (k : Nat) (a0_0 : Bool) (a0_1 : ByteArray) : Option (Bool × ByteArray) := spec_numTidy.l0 k a0_0 a0_1
theorem spec_numTidy.mono_l : ∀ k, (∀ y0 y1, LeO (spec_numTidy.l0 k y0 y1) (spec_numTidy.l0 (k + 1) y0 y1))
  | 0 => fun _ _ r h => by simp [spec_numTidy.l0] at h
  | k + 1 => by
    have ih0 := spec_numTidy.mono_l k
    · intro y0 y1
      unfold spec_numTidy.l0
      repeat' first
      | (with_reducible exact ih0 _ _)
      | (with_reducible exact LeO.refl _)
      | (with_reducible exact LeO.none _)
      | (with_reducible refine LeO.ite ?_ ?_)
      | (with_reducible refine LeO.bind ?_ (fun _ => ?_))
      | exact ih0 _ _
      | exact LeO.none _
      | refine LeO.ite ?_ ?_
      | refine LeO.bind ?_ (fun _ => ?_)
theorem spec_numTidy.mono : ∀ a0 a1 k, LeO (spec_numTidy.f k a0 a1) (spec_numTidy.f (k + 1) a0 a1) := by
  intro a0 a1 k
  have ih0 := spec_numTidy.mono_l k
  unfold spec_numTidy.f
  repeat' first
      | (with_reducible exact ih0 _ _)
      | (with_reducible exact LeO.refl _)
      | (with_reducible exact LeO.none _)
      | (with_reducible refine LeO.ite ?_ ?_)
      | (with_reducible refine LeO.bind ?_ (fun _ => ?_))
      | exact ih0 _ _
      | exact LeO.none _
      | refine LeO.ite ?_ ?_
      | refine LeO.bind ?_ (fun _ => ?_)
set_option maxHeartbeats 8000000 in
set_option maxRecDepth 100000 in
theorem spec_numTidy.calls (k : Nat) (a0_0 : Bool) (a0_1 : ByteArray) (r1 : Bool) (r2 : ByteArray) (w : World) (h : spec_numTidy.f k a0_0 a0_1 = some (r1, r2)) :
    Calls Tryd.prog 19 #[.agg #[.bool a0_0, .string a0_1]] w fun e w' => e = .returned (.agg #[.bool r1, .string r2]) ∧ Below w.heap.size w w' := by
  have hu28 := Tryd.underlying28
  have HB := Aside0.mk (Below.refl w.heap.size w)
  have H : (spec_numTidy.l0 k a0_0 a0_1) = some (r1, r2) := h
  clear h
  have H' := Aside0.mk H
  clear H
  go_enter Tryd.func19, Tryd.ntmps19
  go_wp2_with (first | ((with_reducible refine gate_dst (N := 1) rfl ?_); refine box_event ?hg (N := 1) ?hd (cs := #[.bool a0_0, .string a0_1]) (t := 28) ?hr ?_; (case hd => rfl); (case hg => rfl); (case hr => first | (go_simp; done) | (go_simp; rfl)); intro gb128 hg w2 hbox hb; have n0_ := Aside0.mk (below_step (by repeat (first | (with_reducible first | exact HB.out | apply below_alloc | apply pw_below_drewN | apply below_drew1) | exact HB.out)) hb); have n1_ := Aside0.mk (hbox); have n2_ := Aside0.mk ((by rw [hg]; exact (below_size (by repeat (first | (with_reducible first | exact HB.out | apply below_alloc | apply pw_below_drewN | apply below_drew1) | exact HB.out))) : w.heap.size ≤ gb128)); have n3_ := Aside0.mk ((by rw [hg]; exact (below_size (by repeat (first | (with_reducible first | exact HB.out | apply below_alloc | apply pw_below_drewN | apply below_drew1) | exact HB.out))) : w.heap.size ≤ gb128)); clear HB; have HB := n0_; have BK128 := n1_; have GW128 := n2_; have GE128 := n3_; clear n0_ n1_ n2_ n3_; clear hb hbox hg) | ((with_reducible refine gate_dst (N := 2) rfl ?_); refine box_event ?hg (N := 2) ?hd (cs := #[.bool false, .string (⟨#[]⟩ : ByteArray)]) (t := 28) ?hr ?_; (case hd => rfl); (case hg => rfl); (case hr => first | (go_simp; done) | (go_simp; rfl)); intro gb129 hg w3 hbox hb; have n0_ := Aside0.mk (blk_below (g := gb128) (o := .cells #[.bool a0_0, .string a0_1] 28 (0, 0)) (by (with_reducible repeat (first | refine blk_drewN ?_ _ | refine blk_drew ?_ | refine blk_alloc ?_ _)); exact BK128.out) hb); have n1_ := Aside0.mk (below_step (by repeat (first | (with_reducible first | exact HB.out | apply below_alloc | apply pw_below_drewN | apply below_drew1 | refine below_set ?_ GE128.out) | exact HB.out)) hb); have n2_ := Aside0.mk (hbox); have n3_ := Aside0.mk ((by rw [hg]; exact (below_size (by repeat (first | (with_reducible first | exact HB.out | apply below_alloc | apply pw_below_drewN | apply below_drew1 | refine below_set ?_ GE128.out) | exact HB.out))) : w.heap.size ≤ gb129)); have n4_ := Aside0.mk ((by rw [hg]; exact (below_size (by repeat (first | (with_reducible first | exact HB.out | apply below_alloc | apply pw_below_drewN | apply below_drew1 | refine below_set ?_ GE128.out) | exact HB.out))) : w.heap.size ≤ gb129)); have n5_ := Aside0.mk ((by rw [hg]; exact Nat.ne_of_lt (blk_lt (g := gb128) (o := .cells #[.bool a0_0, .string a0_1] 28 (0, 0)) (by (with_reducible repeat (first | refine blk_drewN ?_ _ | refine blk_drew ?_ | refine blk_alloc ?_ _)); exact BK128.out)) : gb128 ≠ gb129)); have n6_ := Aside0.mk ((by rw [hg]; exact Nat.ne_of_gt (blk_lt (g := gb128) (o := .cells #[.bool a0_0, .string a0_1] 28 (0, 0)) (by (with_reducible repeat (first | refine blk_drewN ?_ _ | refine blk_drew ?_ | refine blk_alloc ?_ _)); exact BK128.out)) : gb129 ≠ gb128)); clear BK128; clear HB; have BK128 := n0_; have HB := n1_; have BK129 := n2_; have GW129 := n3_; have GE129 := n4_; have NB128_129 := n5_; have NB129_128 := n6_; clear n0_ n1_ n2_ n3_ n4_ n5_ n6_; clear hb hbox hg))
  try go_simp
  go_loopg [] k (fun kq w' => ∃ (x129001_1 : ByteArray), Aside0 (spec_numTidy.l0 kq a0_0 x129001_1 = some (r1, r2)) ∧ Aside0 (kq ≤ k) ∧ Aside0 (w'.heap[gb128]? = some (.cells #[.bool a0_0, .string x129001_1] 28 (0, 0))) ∧ Aside0 (w'.heap[gb129]? = some (.cells #[.bool false, .string (⟨#[]⟩ : ByteArray)] 28 (0, 0))) ∧ Aside0 (Below w.heap.size w w'))
  case atStart => exact ⟨(a0_1), H', ⟨Nat.le_refl _⟩, ⟨by (with_reducible repeat (first | refine blk_drewN ?_ _ | refine blk_drew ?_ | refine blk_alloc ?_ _)); exact BK128.out⟩, ⟨by (with_reducible repeat (first | refine blk_drewN ?_ _ | refine blk_drew ?_ | refine blk_alloc ?_ _)); exact BK129.out⟩, ⟨by repeat (first | (with_reducible first | exact HB.out | apply below_alloc | apply pw_below_drewN | apply below_drew1 | refine below_set ?_ GE128.out | refine below_set ?_ GE129.out) | exact HB.out)⟩⟩
  case round =>
    clear H'
    try clear c1
    try clear p2
    obtain ⟨x129001_1, HA, HK1, BK128, BK129, HB⟩ := hrel
    cases gk with
    | zero => exact absurd HA.out (by simp [spec_numTidy.l0])
    | succ k1 =>
      have H := HA.out
      clear HA
      simp only [spec_numTidy.l0] at H
      by_cases c4 : (x129001_1.size : Int) > 0
      · rw [if_pos c4] at H
        have c4b0 : decide (0 < (x129001_1.size : Int)) = true := decide_eq_true c4
        have c4b1 : decide (0 < x129001_1.size) = true := decide_eq_true (by omega)
        clear c4
        by_cases c5 : 0 < (x129001_1.size : Int)
        · rw [if_pos c5] at H
          have c5b0 : decide (0 < (x129001_1.size : Int)) = true := decide_eq_true c5
          have c5b1 : decide (0 < x129001_1.size) = true := decide_eq_true (by omega)
          clear c5
          by_cases c7 : (bt x129001_1 0) = 0
          · rw [if_pos c7] at H
            have c7b0 : ((bt x129001_1 0) == 0) = true := beq_iff_eq.mpr c7
            have c7b1 : ((bt x129001_1 0) != 0) = false := bne_eq_false_iff_eq.mpr c7
            clear c7
            by_cases c8 : 1 ≤ (x129001_1.size : Int)
            · rw [if_pos c8] at H
              have c8b0 := eq_true c8
              have c8b1 : decide (1 ≤ (x129001_1.size : Int)) = true := decide_eq_true c8
              clear c8
              have H' := Aside0.mk H
              clear H
              have hnb9 := NB128_129.out
              have hnc9 := NB129_128.out
              have hcz10_0 : wr.cell? ⟨gb128, 0, none⟩ = some (.bool a0_0) := (blk_cell BK128.out 0).trans rfl
              have hcz10_1 : wr.cell? ⟨gb128, 1, none⟩ = some (.string x129001_1) := (blk_cell BK128.out 1).trans rfl
              have hfz10_0 := blk_frozen BK128.out 0
              have hfz10_1 := blk_frozen BK128.out 1
              have p6 : 0 ≤ (0 : Int) := (by omega)
              have q6 : 0 < x129001_1.size := (by have : (0 : Int) < (x129001_1.size : Int) := of_decide_eq_true (by first | (with_reducible assumption) | assumption); omega)
              have hx6 : ∀ h : 0 < x129001_1.size, ((x129001_1[0]'h).toNat : Int) = bt x129001_1 0 := bt_at x129001_1 0
              clear p6
              have qi6 : (0 < (x129001_1.size : Int)) = True := eq_true (of_decide_eq_true (by first | (with_reducible assumption) | assumption))
              replace q6 := eq_true q6
              go_wp2
              go_roundg k1
              case measure => have := HK1.out; omega
              case rel => exact ⟨(x129001_1.extract 1 x129001_1.size), H', ⟨by have := HK1.out; omega⟩, ⟨by (with_reducible repeat (first | refine blk_drewN ?_ _ | refine blk_drew ?_ | refine blk_alloc ?_ _)); refine blk_put (cs := #[.bool a0_0, .string x129001_1]) ?_ 1 _ rfl; (with_reducible repeat (first | refine blk_drewN ?_ _ | refine blk_drew ?_ | refine blk_alloc ?_ _)); exact BK128.out⟩, ⟨by (with_reducible repeat (first | refine blk_drewN ?_ _ | refine blk_drew ?_ | refine blk_alloc ?_ _)); refine blk_far ?_ NB129_128.out _; (with_reducible repeat (first | refine blk_drewN ?_ _ | refine blk_drew ?_ | refine blk_alloc ?_ _)); exact BK129.out⟩, ⟨by repeat (first | (with_reducible first | exact HB.out | apply below_alloc | apply pw_below_drewN | apply below_drew1 | refine below_set ?_ GE128.out | refine below_set ?_ GE129.out) | exact HB.out)⟩⟩
            · rw [if_neg c8] at H
              exact absurd H (by simp)
          · rw [if_neg c7] at H
            have c7b0 : ((bt x129001_1 0) == 0) = false := beq_eq_false_iff_ne.mpr c7
            have c7b1 : ((bt x129001_1 0) != 0) = true := bne_iff_ne.mpr c7
            by_cases c11 : a0_0 = true
            · subst c11
              have H1 : (some ((x129001_1.toList != ([] : List UInt8)), x129001_1)) = some (r1, r2) := by rw [if_pos rfl] at H; exact H
              clear H
              have H := H1
              clear H1
              simp only [Option.some.injEq, Prod.mk.injEq] at H
              obtain ⟨rfl, rfl⟩ := H
              have hnb12 := NB128_129.out
              have hnc12 := NB129_128.out
              have hcz13_0 : wr.cell? ⟨gb128, 0, none⟩ = some (.bool true) := (blk_cell BK128.out 0).trans rfl
              have hcz13_1 : wr.cell? ⟨gb128, 1, none⟩ = some (.string x129001_1) := (blk_cell BK128.out 1).trans rfl
              have hfz13_0 := blk_frozen BK128.out 0
              have hfz13_1 := blk_frozen BK128.out 1
              have p6 : 0 ≤ (0 : Int) := (by omega)
              have q6 : 0 < x129001_1.size := (by have : (0 : Int) < (x129001_1.size : Int) := of_decide_eq_true (by first | (with_reducible assumption) | assumption); omega)
              have hx6 : ∀ h : 0 < x129001_1.size, ((x129001_1[0]'h).toNat : Int) = bt x129001_1 0 := bt_at x129001_1 0
              clear p6
              have qi6 : (0 < (x129001_1.size : Int)) = True := eq_true (of_decide_eq_true (by first | (with_reducible assumption) | assumption))
              replace q6 := eq_true q6
              have hcz14_0 : wr.cell? ⟨gb129, 0, none⟩ = some (.bool false) := (blk_cell BK129.out 0).trans rfl
              have hcz14_1 : wr.cell? ⟨gb129, 1, none⟩ = some (.string (⟨#[]⟩ : ByteArray)) := (blk_cell BK129.out 1).trans rfl
              have hfz14_0 := blk_frozen BK129.out 0
              have hfz14_1 := blk_frozen BK129.out 1
              go_wp2
              refine bodyPost_ret (results_cell_row rfl _ _ gb129 28 #[.bool (x129001_1.toList != ([] : List UInt8)), .string x129001_1] (0, 0) _ rfl (by (with_reducible repeat (first | refine blk_drewN ?_ _ | refine blk_drew ?_ | refine blk_alloc ?_ _)); refine blk_put (cs := #[.bool (x129001_1.toList != ([] : List UInt8)), .string (⟨#[]⟩ : ByteArray)]) ?_ 1 _ (by first | rfl | simp [bne_nil_]); (with_reducible repeat (first | refine blk_drewN ?_ _ | refine blk_drew ?_ | refine blk_alloc ?_ _)); refine blk_put (cs := #[.bool false, .string (⟨#[]⟩ : ByteArray)]) ?_ 0 _ (by first | rfl | simp [bne_nil_]); (with_reducible repeat (first | refine blk_drewN ?_ _ | refine blk_drew ?_ | refine blk_alloc ?_ _)); refine blk_far ?_ NB129_128.out _; (with_reducible repeat (first | refine blk_drewN ?_ _ | refine blk_drew ?_ | refine blk_alloc ?_ _)); exact BK129.out) Tryd.underlying28 rfl (by kernel_rfl)) rfl ?_
              exact ⟨by first | rfl | (simp [errW_none, errW_some] <;> rfl) | (simp [*, errW_none, errW_some] <;> rfl) | (simp [bne_nil_]; done), by repeat (first | (with_reducible first | exact HB.out | apply below_alloc | apply pw_below_drewN | apply below_drew1 | refine below_set ?_ GE128.out | refine below_set ?_ GE129.out) | exact HB.out)⟩
            · replace c11 := Bool.eq_false_iff.mpr c11
              subst c11
              have H1 : (some (false, x129001_1)) = some (r1, r2) := by rw [if_neg (show ¬ (false = true) by decide)] at H; exact H
              clear H
              have H := H1
              clear H1
              simp only [Option.some.injEq, Prod.mk.injEq] at H
              obtain ⟨rfl, rfl⟩ := H
              have hnb15 := NB128_129.out
              have hnc15 := NB129_128.out
              have hcz16_0 : wr.cell? ⟨gb128, 0, none⟩ = some (.bool false) := (blk_cell BK128.out 0).trans rfl
              have hcz16_1 : wr.cell? ⟨gb128, 1, none⟩ = some (.string x129001_1) := (blk_cell BK128.out 1).trans rfl
              have hfz16_0 := blk_frozen BK128.out 0
              have hfz16_1 := blk_frozen BK128.out 1
              have p6 : 0 ≤ (0 : Int) := (by omega)
              have q6 : 0 < x129001_1.size := (by have : (0 : Int) < (x129001_1.size : Int) := of_decide_eq_true (by first | (with_reducible assumption) | assumption); omega)
              have hx6 : ∀ h : 0 < x129001_1.size, ((x129001_1[0]'h).toNat : Int) = bt x129001_1 0 := bt_at x129001_1 0
              clear p6
              have qi6 : (0 < (x129001_1.size : Int)) = True := eq_true (of_decide_eq_true (by first | (with_reducible assumption) | assumption))
              replace q6 := eq_true q6
              have hcz17_0 : wr.cell? ⟨gb129, 0, none⟩ = some (.bool false) := (blk_cell BK129.out 0).trans rfl
              have hcz17_1 : wr.cell? ⟨gb129, 1, none⟩ = some (.string (⟨#[]⟩ : ByteArray)) := (blk_cell BK129.out 1).trans rfl
              have hfz17_0 := blk_frozen BK129.out 0
              have hfz17_1 := blk_frozen BK129.out 1
              go_wp2
              refine bodyPost_ret (results_cell_row rfl _ _ gb129 28 #[.bool false, .string x129001_1] (0, 0) _ rfl (by (with_reducible repeat (first | refine blk_drewN ?_ _ | refine blk_drew ?_ | refine blk_alloc ?_ _)); refine blk_put (cs := #[.bool false, .string (⟨#[]⟩ : ByteArray)]) ?_ 1 _ rfl; (with_reducible repeat (first | refine blk_drewN ?_ _ | refine blk_drew ?_ | refine blk_alloc ?_ _)); refine blk_put (cs := #[.bool false, .string (⟨#[]⟩ : ByteArray)]) ?_ 0 _ rfl; (with_reducible repeat (first | refine blk_drewN ?_ _ | refine blk_drew ?_ | refine blk_alloc ?_ _)); refine blk_far ?_ NB129_128.out _; (with_reducible repeat (first | refine blk_drewN ?_ _ | refine blk_drew ?_ | refine blk_alloc ?_ _)); exact BK129.out) Tryd.underlying28 rfl (by kernel_rfl)) rfl ?_
              exact ⟨by first | rfl | (simp [errW_none, errW_some] <;> rfl) | (simp [*, errW_none, errW_some] <;> rfl) | (simp [bne_nil_]; done), by repeat (first | (with_reducible first | exact HB.out | apply below_alloc | apply pw_below_drewN | apply below_drew1 | refine below_set ?_ GE128.out | refine below_set ?_ GE129.out) | exact HB.out)⟩
        · rw [if_neg c5] at H
          exact absurd H (by simp)
      · rw [if_neg c4] at H
        have c4b0 : decide (0 < (x129001_1.size : Int)) = false := decide_eq_false c4
        have c4b1 : decide (0 < x129001_1.size) = false := decide_eq_false (by omega)
        clear c4
        by_cases c18 : a0_0 = true
        · subst c18
          have H1 : (some ((x129001_1.toList != ([] : List UInt8)), x129001_1)) = some (r1, r2) := by rw [if_pos rfl] at H; exact H
          clear H
          have H := H1
          clear H1
          simp only [Option.some.injEq, Prod.mk.injEq] at H
          obtain ⟨rfl, rfl⟩ := H
          have hnb19 := NB128_129.out
          have hnc19 := NB129_128.out
          have hcz20_0 : wr.cell? ⟨gb128, 0, none⟩ = some (.bool true) := (blk_cell BK128.out 0).trans rfl
          have hcz20_1 : wr.cell? ⟨gb128, 1, none⟩ = some (.string x129001_1) := (blk_cell BK128.out 1).trans rfl
          have hfz20_0 := blk_frozen BK128.out 0
          have hfz20_1 := blk_frozen BK128.out 1
          have hcz21_0 : wr.cell? ⟨gb129, 0, none⟩ = some (.bool false) := (blk_cell BK129.out 0).trans rfl
          have hcz21_1 : wr.cell? ⟨gb129, 1, none⟩ = some (.string (⟨#[]⟩ : ByteArray)) := (blk_cell BK129.out 1).trans rfl
          have hfz21_0 := blk_frozen BK129.out 0
          have hfz21_1 := blk_frozen BK129.out 1
          go_wp2
          refine bodyPost_ret (results_cell_row rfl _ _ gb129 28 #[.bool (x129001_1.toList != ([] : List UInt8)), .string x129001_1] (0, 0) _ rfl (by (with_reducible repeat (first | refine blk_drewN ?_ _ | refine blk_drew ?_ | refine blk_alloc ?_ _)); refine blk_put (cs := #[.bool (x129001_1.toList != ([] : List UInt8)), .string (⟨#[]⟩ : ByteArray)]) ?_ 1 _ (by first | rfl | simp [bne_nil_]); (with_reducible repeat (first | refine blk_drewN ?_ _ | refine blk_drew ?_ | refine blk_alloc ?_ _)); refine blk_put (cs := #[.bool false, .string (⟨#[]⟩ : ByteArray)]) ?_ 0 _ (by first | rfl | simp [bne_nil_]); (with_reducible repeat (first | refine blk_drewN ?_ _ | refine blk_drew ?_ | refine blk_alloc ?_ _)); refine blk_far ?_ NB129_128.out _; (with_reducible repeat (first | refine blk_drewN ?_ _ | refine blk_drew ?_ | refine blk_alloc ?_ _)); exact BK129.out) Tryd.underlying28 rfl (by kernel_rfl)) rfl ?_
          exact ⟨by first | rfl | (simp [errW_none, errW_some] <;> rfl) | (simp [*, errW_none, errW_some] <;> rfl) | (simp [bne_nil_]; done), by repeat (first | (with_reducible first | exact HB.out | apply below_alloc | apply pw_below_drewN | apply below_drew1 | refine below_set ?_ GE128.out | refine below_set ?_ GE129.out) | exact HB.out)⟩
        · replace c18 := Bool.eq_false_iff.mpr c18
          subst c18
          have H1 : (some (false, x129001_1)) = some (r1, r2) := by rw [if_neg (show ¬ (false = true) by decide)] at H; exact H
          clear H
          have H := H1
          clear H1
          simp only [Option.some.injEq, Prod.mk.injEq] at H
          obtain ⟨rfl, rfl⟩ := H
          have hnb22 := NB128_129.out
          have hnc22 := NB129_128.out
          have hcz23_0 : wr.cell? ⟨gb128, 0, none⟩ = some (.bool false) := (blk_cell BK128.out 0).trans rfl
          have hcz23_1 : wr.cell? ⟨gb128, 1, none⟩ = some (.string x129001_1) := (blk_cell BK128.out 1).trans rfl
          have hfz23_0 := blk_frozen BK128.out 0
          have hfz23_1 := blk_frozen BK128.out 1
          have hcz24_0 : wr.cell? ⟨gb129, 0, none⟩ = some (.bool false) := (blk_cell BK129.out 0).trans rfl
          have hcz24_1 : wr.cell? ⟨gb129, 1, none⟩ = some (.string (⟨#[]⟩ : ByteArray)) := (blk_cell BK129.out 1).trans rfl
          have hfz24_0 := blk_frozen BK129.out 0
          have hfz24_1 := blk_frozen BK129.out 1
          go_wp2
          refine bodyPost_ret (results_cell_row rfl _ _ gb129 28 #[.bool false, .string x129001_1] (0, 0) _ rfl (by (with_reducible repeat (first | refine blk_drewN ?_ _ | refine blk_drew ?_ | refine blk_alloc ?_ _)); refine blk_put (cs := #[.bool false, .string (⟨#[]⟩ : ByteArray)]) ?_ 1 _ rfl; (with_reducible repeat (first | refine blk_drewN ?_ _ | refine blk_drew ?_ | refine blk_alloc ?_ _)); refine blk_put (cs := #[.bool false, .string (⟨#[]⟩ : ByteArray)]) ?_ 0 _ rfl; (with_reducible repeat (first | refine blk_drewN ?_ _ | refine blk_drew ?_ | refine blk_alloc ?_ _)); refine blk_far ?_ NB129_128.out _; (with_reducible repeat (first | refine blk_drewN ?_ _ | refine blk_drew ?_ | refine blk_alloc ?_ _)); exact BK129.out) Tryd.underlying28 rfl (by kernel_rfl)) rfl ?_
          exact ⟨by first | rfl | (simp [errW_none, errW_some] <;> rfl) | (simp [*, errW_none, errW_some] <;> rfl) | (simp [bne_nil_]; done), by repeat (first | (with_reducible first | exact HB.out | apply below_alloc | apply pw_below_drewN | apply below_drew1 | refine below_set ?_ GE128.out | refine below_set ?_ GE129.out) | exact HB.out)⟩

/-! ### spec_orderInts: function 20 -/
def spec_orderInts.f (a0 : Int) (a1 : Int) : Option (Int) := if a0 < a1 then (some (-1)) else (if a0 > a1 then (some 1) else (some 0))
set_option maxHeartbeats 8000000 in
set_option maxRecDepth 100000 in
theorem spec_orderInts.calls (a0 : Int) (a1 : Int) (r : Int) (w : World) (h : spec_orderInts.f a0 a1 = some r) :
    Calls Tryd.prog 20 #[.int .i64 a0, .int .i64 a1] w fun e w' => e = .returned (.int .i64 r) ∧ Drawn0 w w' := by
  have H : (if a0 < a1 then (some (-1)) else (if a0 > a1 then (some 1) else (some 0))) = some r := h
  clear h
  by_cases c3 : a0 < a1
  · rw [if_pos c3] at H
    have c3b0 : decide (a0 < a1) = true := decide_eq_true c3
    clear c3
    obtain rfl := Option.some.inj H
    go_enter Tryd.func20, Tryd.ntmps20
    go_wp2
    go_ret
    exact ⟨by first | rfl | (simp; done) | (simp [*]; done) | (simp [bne_nil_]; done), by repeat (first | exact Drawn0.refl _ | apply Drawn0.step)⟩
  · rw [if_neg c3] at H
    have c3b0 : decide (a0 < a1) = false := decide_eq_false c3
    clear c3
    by_cases c4 : a0 > a1
    · rw [if_pos c4] at H
      have c4b0 : decide (a1 < a0) = true := decide_eq_true c4
      clear c4
      obtain rfl := Option.some.inj H
      go_enter Tryd.func20, Tryd.ntmps20
      go_wp2
      go_ret
      exact ⟨by first | rfl | (simp; done) | (simp [*]; done) | (simp [bne_nil_]; done), by repeat (first | exact Drawn0.refl _ | apply Drawn0.step)⟩
    · rw [if_neg c4] at H
      have c4b0 : decide (a1 < a0) = false := decide_eq_false c4
      clear c4
      obtain rfl := Option.some.inj H
      go_enter Tryd.func20, Tryd.ntmps20
      go_wp2
      go_ret
      exact ⟨by first | rfl | (simp; done) | (simp [*]; done) | (simp [bne_nil_]; done), by repeat (first | exact Drawn0.refl _ | apply Drawn0.step)⟩

-- GIVEN: function 21 (spec_order)

/-! ### spec_intOrder: function 16 -/
mutual
def spec_intOrder.j2 : Nat → Bool → ByteArray → Bool → ByteArray → Option (Int)
  | 0, _, _, _, _ => none
  | k + 1, x131000, x131001, x132000, x132001 => if (x131001.size : Int) = (x132001.size : Int) then ((Giv.spec_order.f x131001 x132001).bind fun t136 => (some t136)) else ((spec_orderInts.f (x131001.size : Int) (x132001.size : Int)).bind fun t137 => (some t137))
def spec_intOrder.j0 : Nat → Bool → Bool → ByteArray → Bool → ByteArray → Option (Int)
  | 0, _, _, _, _, _ => none
  | k + 1, x9, x131000, x131001, x132000, x132001 => if x9 = true then (some (-1)) else (if x131000 = true then (spec_intOrder.j1 k false x131000 x131001 x132000 x132001) else (spec_intOrder.j1 k x132000 x131000 x131001 x132000 x132001))
def spec_intOrder.j1 : Nat → Bool → Bool → ByteArray → Bool → ByteArray → Option (Int)
  | 0, _, _, _, _, _ => none
  | k + 1, x17, x131000, x131001, x132000, x132001 => if x17 = true then (some 1) else (if x131000 = true then (spec_intOrder.j2 k x132000 x132001 x131000 x131001) else (spec_intOrder.j2 k x131000 x131001 x132000 x132001))
end
def spec_intOrder.f (k : Nat) (a0_0 : Bool) (a0_1 : ByteArray) (a1_0 : Bool) (a1_1 : ByteArray) : Option (Int) := (spec_numTidy.f k a0_0 a0_1).bind fun bt132 => ((spec_numTidy.f k a1_0 a1_1).bind fun bt134 => (if bt132.1 = true then (spec_intOrder.j0 k (!bt134.1) bt132.1 bt132.2 bt134.1 bt134.2) else (spec_intOrder.j0 k false bt132.1 bt132.2 bt134.1 bt134.2)))
theorem spec_intOrder.mono_l : ∀ k, (∀ y0 y1 y2 y3, LeO (spec_intOrder.j2 k y0 y1 y2 y3) (spec_intOrder.j2 (k + 1) y0 y1 y2 y3)) ∧ (∀ y0 y1 y2 y3 y4, LeO (spec_intOrder.j0 k y0 y1 y2 y3 y4) (spec_intOrder.j0 (k + 1) y0 y1 y2 y3 y4)) ∧ (∀ y0 y1 y2 y3 y4, LeO (spec_intOrder.j1 k y0 y1 y2 y3 y4) (spec_intOrder.j1 (k + 1) y0 y1 y2 y3 y4))
  | 0 => ⟨fun _ _ _ _ r h => by simp [spec_intOrder.j2] at h, fun _ _ _ _ _ r h => by simp [spec_intOrder.j0] at h, fun _ _ _ _ _ r h => by simp [spec_intOrder.j1] at h⟩
  | k + 1 => by
    obtain ⟨ih0, ih1, ih2⟩ := spec_intOrder.mono_l k
    refine ⟨?_, ?_, ?_⟩
    · intro y0 y1 y2 y3
      unfold spec_intOrder.j2
      repeat' first
      | (with_reducible exact ih0 _ _ _ _)
      | (with_reducible exact ih1 _ _ _ _ _)
      | (with_reducible exact ih2 _ _ _ _ _)
      | (with_reducible exact spec_numTidy.mono _ _ _)
      | (with_reducible exact LeO.refl _)
      | (with_reducible exact LeO.none _)
      | (with_reducible refine LeO.ite ?_ ?_)
      | (with_reducible refine LeO.bind ?_ (fun _ => ?_))
      | exact ih0 _ _ _ _
      | exact ih1 _ _ _ _ _
      | exact ih2 _ _ _ _ _
      | exact spec_numTidy.mono _ _ _
      | exact LeO.none _
      | refine LeO.ite ?_ ?_
      | refine LeO.bind ?_ (fun _ => ?_)
    · intro y0 y1 y2 y3 y4
      unfold spec_intOrder.j0
      repeat' first
      | (with_reducible exact ih0 _ _ _ _)
      | (with_reducible exact ih1 _ _ _ _ _)
      | (with_reducible exact ih2 _ _ _ _ _)
      | (with_reducible exact spec_numTidy.mono _ _ _)
      | (with_reducible exact LeO.refl _)
      | (with_reducible exact LeO.none _)
      | (with_reducible refine LeO.ite ?_ ?_)
      | (with_reducible refine LeO.bind ?_ (fun _ => ?_))
      | exact ih0 _ _ _ _
      | exact ih1 _ _ _ _ _
      | exact ih2 _ _ _ _ _
      | exact spec_numTidy.mono _ _ _
      | exact LeO.none _
      | refine LeO.ite ?_ ?_
      | refine LeO.bind ?_ (fun _ => ?_)
    · intro y0 y1 y2 y3 y4
      unfold spec_intOrder.j1
      repeat' first
      | (with_reducible exact ih0 _ _ _ _)
      | (with_reducible exact ih1 _ _ _ _ _)
      | (with_reducible exact ih2 _ _ _ _ _)
      | (with_reducible exact spec_numTidy.mono _ _ _)
      | (with_reducible exact LeO.refl _)
      | (with_reducible exact LeO.none _)
      | (with_reducible refine LeO.ite ?_ ?_)
      | (with_reducible refine LeO.bind ?_ (fun _ => ?_))
      | exact ih0 _ _ _ _
      | exact ih1 _ _ _ _ _
      | exact ih2 _ _ _ _ _
      | exact spec_numTidy.mono _ _ _
      | exact LeO.none _
      | refine LeO.ite ?_ ?_
      | refine LeO.bind ?_ (fun _ => ?_)
theorem spec_intOrder.mono : ∀ a0 a1 a2 a3 k, LeO (spec_intOrder.f k a0 a1 a2 a3) (spec_intOrder.f (k + 1) a0 a1 a2 a3) := by
  intro a0 a1 a2 a3 k
  obtain ⟨ih0, ih1, ih2⟩ := spec_intOrder.mono_l k
  unfold spec_intOrder.f
  repeat' first
      | (with_reducible exact ih0 _ _ _ _)
      | (with_reducible exact ih1 _ _ _ _ _)
      | (with_reducible exact ih2 _ _ _ _ _)
      | (with_reducible exact spec_numTidy.mono _ _ _)
      | (with_reducible exact LeO.refl _)
      | (with_reducible exact LeO.none _)
      | (with_reducible refine LeO.ite ?_ ?_)
      | (with_reducible refine LeO.bind ?_ (fun _ => ?_))
      | exact ih0 _ _ _ _
      | exact ih1 _ _ _ _ _
      | exact ih2 _ _ _ _ _
      | exact spec_numTidy.mono _ _ _
      | exact LeO.none _
      | refine LeO.ite ?_ ?_
      | refine LeO.bind ?_ (fun _ => ?_)
set_option maxHeartbeats 8000000 in
set_option maxRecDepth 100000 in
theorem spec_intOrder.calls (k : Nat) (a0_0 : Bool) (a0_1 : ByteArray) (a1_0 : Bool) (a1_1 : ByteArray) (r : Int) (w : World) (h : spec_intOrder.f k a0_0 a0_1 a1_0 a1_1 = some r) :
    Calls Tryd.prog 16 #[.agg #[.bool a0_0, .string a0_1], .agg #[.bool a1_0, .string a1_1]] w fun e w' => e = .returned (.int .i64 r) ∧ Below w.heap.size w w' := by
  have hu28 := Tryd.underlying28
  have HB := Aside0.mk (Below.refl w.heap.size w)
  have H : ((spec_numTidy.f k a0_0 a0_1).bind fun bt132 => ((spec_numTidy.f k a1_0 a1_1).bind fun bt134 => (if bt132.1 = true then (spec_intOrder.j0 k (!bt134.1) bt132.1 bt132.2 bt134.1 bt134.2) else (spec_intOrder.j0 k false bt132.1 bt132.2 bt134.1 bt134.2)))) = some r := h
  clear h
  replace H := Option.bind_eq_some_iff.mp H
  obtain ⟨⟨t132, t133⟩, A30, H⟩ := H
  replace H : ((spec_numTidy.f k a1_0 a1_1).bind fun bt134 => (if t132 = true then (spec_intOrder.j0 k (!bt134.1) t132 t133 bt134.1 bt134.2) else (spec_intOrder.j0 k false t132 t133 bt134.1 bt134.2))) = some r := H
  have A3 := Aside0.mk A30
  clear A30
  replace H := Option.bind_eq_some_iff.mp H
  obtain ⟨⟨t134, t135⟩, A40, H⟩ := H
  replace H : (if t132 = true then (spec_intOrder.j0 k (!t134) t132 t133 t134 t135) else (spec_intOrder.j0 k false t132 t133 t134 t135)) = some r := H
  have A4 := Aside0.mk A40
  clear A40
  have HC5 := Aside0.mk H
  clear H
  go_enter Tryd.func16, Tryd.ntmps16
  try go_wp2_with (first | ((with_reducible refine gate_dst (N := 2) rfl ?_); refine box_event ?hg (N := 2) ?hd (cs := #[.bool a0_0, .string a0_1]) (t := 28) ?hr ?_; (case hd => rfl); (case hg => rfl); (case hr => first | (go_simp; done) | (go_simp; rfl)); intro gb130 hg w6 hbox hb; have n0_ := Aside0.mk (below_step (by repeat (first | (with_reducible first | exact HB.out | apply below_alloc | apply pw_below_drewN | apply below_drew1) | exact HB.out)) hb); have n1_ := Aside0.mk (hbox); have n2_ := Aside0.mk ((by rw [hg]; exact (below_size (by repeat (first | (with_reducible first | exact HB.out | apply below_alloc | apply pw_below_drewN | apply below_drew1) | exact HB.out))) : w.heap.size ≤ gb130)); have n3_ := Aside0.mk ((by rw [hg]; exact (below_size (by repeat (first | (with_reducible first | exact HB.out | apply below_alloc | apply pw_below_drewN | apply below_drew1) | exact HB.out))) : w.heap.size ≤ gb130)); clear HB; have HB := n0_; have BK130 := n1_; have GW130 := n2_; have GE130 := n3_; clear n0_ n1_ n2_ n3_; clear hb hbox hg) | ((with_reducible refine gate_dst (N := 3) rfl ?_); refine box_event ?hg (N := 3) ?hd (cs := #[.bool a1_0, .string a1_1]) (t := 28) ?hr ?_; (case hd => rfl); (case hg => rfl); (case hr => first | (go_simp; done) | (go_simp; rfl)); intro gb131 hg w7 hbox hb; have n0_ := Aside0.mk (blk_below (g := gb130) (o := .cells #[.bool a0_0, .string a0_1] 28 (0, 0)) (by (with_reducible repeat (first | refine blk_drewN ?_ _ | refine blk_drew ?_ | refine blk_alloc ?_ _)); exact BK130.out) hb); have n1_ := Aside0.mk (below_step (by repeat (first | (with_reducible first | exact HB.out | apply below_alloc | apply pw_below_drewN | apply below_drew1 | refine below_set ?_ GE130.out) | exact HB.out)) hb); have n2_ := Aside0.mk (hbox); have n3_ := Aside0.mk ((by rw [hg]; exact (below_size (by repeat (first | (with_reducible first | exact HB.out | apply below_alloc | apply pw_below_drewN | apply below_drew1 | refine below_set ?_ GE130.out) | exact HB.out))) : w.heap.size ≤ gb131)); have n4_ := Aside0.mk ((by rw [hg]; exact (below_size (by repeat (first | (with_reducible first | exact HB.out | apply below_alloc | apply pw_below_drewN | apply below_drew1 | refine below_set ?_ GE130.out) | exact HB.out))) : w.heap.size ≤ gb131)); have n5_ := Aside0.mk ((by rw [hg]; exact Nat.ne_of_lt (blk_lt (g := gb130) (o := .cells #[.bool a0_0, .string a0_1] 28 (0, 0)) (by (with_reducible repeat (first | refine blk_drewN ?_ _ | refine blk_drew ?_ | refine blk_alloc ?_ _)); exact BK130.out)) : gb130 ≠ gb131)); have n6_ := Aside0.mk ((by rw [hg]; exact Nat.ne_of_gt (blk_lt (g := gb130) (o := .cells #[.bool a0_0, .string a0_1] 28 (0, 0)) (by (with_reducible repeat (first | refine blk_drewN ?_ _ | refine blk_drew ?_ | refine blk_alloc ?_ _)); exact BK130.out)) : gb131 ≠ gb130)); clear BK130; clear HB; have BK130 := n0_; have HB := n1_; have BK131 := n2_; have GW131 := n3_; have GE131 := n4_; have NB130_131 := n5_; have NB131_130 := n6_; clear n0_ n1_ n2_ n3_ n4_ n5_ n6_; clear hb hbox hg))
  have n0_ := Aside0.mk (blk_drew BK130.out)
  have n1_ := Aside0.mk (blk_drew BK131.out)
  have n2_ := Aside0.mk (below_drew1 HB.out)
  clear BK130
  clear BK131
  clear HB
  have BK130 := n0_
  have BK131 := n1_
  have HB := n2_
  clear n0_ n1_ n2_
  refine start_ (n := 6) (S := fun w' => w'.cell? ⟨gb130, 0, none⟩ = some (.bool a0_0) ∧ w'.cell? ⟨gb130, 1, none⟩ = some (.string a0_1) ∧ w'.cell? ⟨gb131, 0, none⟩ = some (.bool a1_0) ∧ w'.cell? ⟨gb131, 1, none⟩ = some (.string a1_1)) (ds := [4, 5]) #[false, false, false, false, false, false] (by kernel_rfl) rfl rfl ⟨(blk_cell BK130.out 0).trans rfl, (blk_cell BK130.out 1).trans rfl, (blk_cell BK131.out 0).trans rfl, (blk_cell BK131.out 1).trans rfl⟩ (fun hHeld => ?_)
  generalize w7.drew = w8 at BK130 BK131 HB hHeld ⊢
  refine take_ (i := 0) (N := some 5) (v := ?_) (a' := ?_) #[true, false, false, false, false, false] rfl rfl (by kernel_rfl) (fun _ _ _ h => h) (Or.inl ⟨by rfl, ?_⟩) hHeld ?_ ?_
  rotate_left
  · rintro w' ⟨s0, s1, s2, s3⟩
    go_simp
    with_reducible rfl
  rotate_left
  · simp only [Act.put, List.setIfInBounds_toArray, List.set_cons_zero, List.set_cons_succ, i64_w, i32_w]
    rfl
  refine take_ (i := 2) (N := some 7) (v := ?_) (a' := ?_) #[true, false, true, false, false, false] rfl rfl (by kernel_rfl) (fun _ _ _ h => h) (Or.inl ⟨by rfl, ?_⟩) hHeld ?_ ?_
  rotate_left
  · rintro w' ⟨s0, s1, s2, s3⟩
    go_simp
    with_reducible rfl
  rotate_left
  · simp only [Act.put, List.setIfInBounds_toArray, List.set_cons_zero, List.set_cons_succ, i64_w, i32_w]
    rfl
  refine one_ (i := 1) (N := some 6) #[true, true, true, false, false, false] rfl rfl (by kernel_rfl) (by decide) (fun K hK => ?_)
  refine goes_ Tryd.func19 (by kernel_rfl) rfl #[.agg #[.bool a0_0, .string a0_1]] (by rfl) rfl rfl (by (try simp only [List.map_toArray, List.map_cons, List.map_nil]); first | done | rfl | (simp only [List.length_drop, List.length_take]; rfl)) ?_
  with_reducible refine (spec_numTidy.calls k a0_0 a0_1 t132 t133 _ A3.out).mono ?_
  rintro e w9 ⟨rfl, hb⟩
  refine ⟨_, rfl, ?_⟩
  have n0_ := Aside0.mk (blk_below (g := gb130) (o := .cells #[.bool a0_0, .string a0_1] 28 (0, 0)) (by (with_reducible repeat (first | refine blk_drewN ?_ _ | refine blk_drew ?_ | refine blk_alloc ?_ _)); exact BK130.out) hb)
  have n1_ := Aside0.mk (blk_below (g := gb131) (o := .cells #[.bool a1_0, .string a1_1] 28 (0, 0)) (by (with_reducible repeat (first | refine blk_drewN ?_ _ | refine blk_drew ?_ | refine blk_alloc ?_ _)); exact BK131.out) hb)
  have n2_ := Aside0.mk (below_step (by repeat (first | (with_reducible first | exact HB.out | apply below_alloc | apply pw_below_drewN | apply below_drew1 | refine below_set ?_ GE130.out | refine below_set ?_ GE131.out) | exact HB.out)) hb)
  clear BK130
  clear BK131
  clear HB
  have BK130 := n0_
  have BK131 := n1_
  have HB := n2_
  clear n0_ n1_ n2_
  (try clear hb)
  (try clear hb2)
  (try clear hk)
  (try clear hi)
  refine hK.out _ _ ⟨(blk_cell BK130.out 0).trans rfl, (blk_cell BK130.out 1).trans rfl, (blk_cell BK131.out 0).trans rfl, (blk_cell BK131.out 1).trans rfl⟩ (fun hHeld => ?_)
  clear hK K
  refine norm_ (a' := ?_) ?_ ?_
  rotate_left
  · show Act.put _ (some 6) _ = _
    simp only [Act.put, List.setIfInBounds_toArray, List.set_cons_zero, List.set_cons_succ, i64_w, i32_w]
    rfl
  refine one_ (i := 3) (N := some 8) #[true, true, true, true, false, false] rfl rfl (by kernel_rfl) (by decide) (fun K hK => ?_)
  refine goes_ Tryd.func19 (by kernel_rfl) rfl #[.agg #[.bool a1_0, .string a1_1]] (by rfl) rfl rfl (by (try simp only [List.map_toArray, List.map_cons, List.map_nil]); first | done | rfl | (simp only [List.length_drop, List.length_take]; rfl)) ?_
  with_reducible refine (spec_numTidy.calls k a1_0 a1_1 t134 t135 _ A4.out).mono ?_
  rintro e w10 ⟨rfl, hb⟩
  refine ⟨_, rfl, ?_⟩
  have n0_ := Aside0.mk (blk_below (g := gb130) (o := .cells #[.bool a0_0, .string a0_1] 28 (0, 0)) (by (with_reducible repeat (first | refine blk_drewN ?_ _ | refine blk_drew ?_ | refine blk_alloc ?_ _)); exact BK130.out) hb)
  have n1_ := Aside0.mk (blk_below (g := gb131) (o := .cells #[.bool a1_0, .string a1_1] 28 (0, 0)) (by (with_reducible repeat (first | refine blk_drewN ?_ _ | refine blk_drew ?_ | refine blk_alloc ?_ _)); exact BK131.out) hb)
  have n2_ := Aside0.mk (below_step (by repeat (first | (with_reducible first | exact HB.out | apply below_alloc | apply pw_below_drewN | apply below_drew1 | refine below_set ?_ GE130.out | refine below_set ?_ GE131.out) | exact HB.out)) hb)
  clear BK130
  clear BK131
  clear HB
  have BK130 := n0_
  have BK131 := n1_
  have HB := n2_
  clear n0_ n1_ n2_
  (try clear hb)
  (try clear hb2)
  (try clear hk)
  (try clear hi)
  refine hK.out _ _ ⟨(blk_cell BK130.out 0).trans rfl, (blk_cell BK130.out 1).trans rfl, (blk_cell BK131.out 0).trans rfl, (blk_cell BK131.out 1).trans rfl⟩ (fun hHeld => ?_)
  clear hK K
  refine norm_ (a' := ?_) ?_ ?_
  rotate_left
  · show Act.put _ (some 8) _ = _
    simp only [Act.put, List.setIfInBounds_toArray, List.set_cons_zero, List.set_cons_succ, i64_w, i32_w]
    rfl
  refine last_ (i := 4) (N := none) #[true, true, true, true, true, false] rfl rfl (by kernel_rfl) (by decide) (fun K hK => ?_)
  have hs11 : w10.cell? ⟨gb130, 0, none⟩ = some (.bool a0_0) := (blk_cell BK130.out 0).trans rfl
  have hfs11 := blk_frozen BK130.out 0
  have hns11_1 := NB131_130.out
  have hms11_1 := NB130_131.out
  have hs12 : w10.cell? ⟨gb130, 1, none⟩ = some (.string a0_1) := (blk_cell BK130.out 1).trans rfl
  have hfs12 := blk_frozen BK130.out 1
  have hns12_1 := NB131_130.out
  have hms12_1 := NB130_131.out
  refine skip_ (w1 := ?_) (by rfl) rfl ?_ ?_
  rotate_left
  · go_simp
    rfl
  refine hK.out _ _ ?_
  clear hK K
  refine last_ (i := 5) (N := none) #[true, true, true, true, true, true] rfl rfl (by kernel_rfl) (by decide) (fun K hK => ?_)
  have hs13 : w10.cell? ⟨gb131, 0, none⟩ = some (.bool a1_0) := (blk_cell BK131.out 0).trans rfl
  have hfs13 := blk_frozen BK131.out 0
  have hns13_0 := NB130_131.out
  have hms13_0 := NB131_130.out
  have hs14 : w10.cell? ⟨gb131, 1, none⟩ = some (.string a1_1) := (blk_cell BK131.out 1).trans rfl
  have hfs14 := blk_frozen BK131.out 1
  have hns14_0 := NB130_131.out
  have hms14_0 := NB131_130.out
  refine skip_ (w1 := ?_) (by rfl) rfl ?_ ?_
  rotate_left
  · go_simp
    rfl
  refine hK.out _ _ ?_
  clear hK K
  refine done_ (by kernel_rfl) ?_
  go_upto_block 0 with (fail)
  go_cut [] (fun wc => ∃ (kq : Nat) (x131000_4 : Bool) (x131001_4 : ByteArray) (x132000_4 : Bool) (x132001_4 : ByteArray), Aside0 (spec_intOrder.j2 kq x131000_4 x131001_4 x132000_4 x132001_4 = some r) ∧ Aside0 (kq ≤ k) ∧ Aside0 (wc.heap[gb130]? = some (.cells #[.bool x131000_4, .string x131001_4] 28 (0, 0))) ∧ Aside0 (wc.heap[gb131]? = some (.cells #[.bool x132000_4, .string x132001_4] 28 (0, 0))) ∧ Aside0 (Below w.heap.size w wc))
  case first =>
    have H := HC5.out
    clear HC5
    have HC15 := Aside0.mk H
    clear H
    go_upto_region 2 with (fail)
    go_cut [9] (fun v9 wc => ∃ (kq : Nat) (x9_14 : Bool), v9 = .bool x9_14 ∧ Aside0 (spec_intOrder.j0 kq x9_14 t132 t133 t134 t135 = some r) ∧ Aside0 (kq ≤ k) ∧ Aside0 (wc.heap[gb130]? = some (.cells #[.bool t132, .string t133] 28 (0, 0))) ∧ Aside0 (wc.heap[gb131]? = some (.cells #[.bool t134, .string t135] 28 (0, 0))) ∧ Aside0 (Below w.heap.size w wc))
    case first =>
      have H := HC15.out
      clear HC15
      by_cases c16 : t132 = true
      · subst c16
        have H1 : (spec_intOrder.j0 k (!t134) true t133 t134 t135) = some r := by rw [if_pos rfl] at H; exact H
        clear H
        have H := H1
        clear H1
        have H' := Aside0.mk H
        clear H
        have hnb17 := NB130_131.out
        have hnc17 := NB131_130.out
        have hcz18_0 : w10.cell? ⟨gb130, 0, none⟩ = some (.bool a0_0) := (blk_cell BK130.out 0).trans rfl
        have hcz18_1 : w10.cell? ⟨gb130, 1, none⟩ = some (.string a0_1) := (blk_cell BK130.out 1).trans rfl
        have hfz18_0 := blk_frozen BK130.out 0
        have hfz18_1 := blk_frozen BK130.out 1
        have hcz19_0 : w10.cell? ⟨gb131, 0, none⟩ = some (.bool a1_0) := (blk_cell BK131.out 0).trans rfl
        have hcz19_1 : w10.cell? ⟨gb131, 1, none⟩ = some (.string a1_1) := (blk_cell BK131.out 1).trans rfl
        have hfz19_0 := blk_frozen BK131.out 0
        have hfz19_1 := blk_frozen BK131.out 1
        go_wp2
        go_meet
        case rel => exact ⟨_, (!t134), (by first | rfl | (simp; done) | (simp [*]; done) | (simp [bne_nil_]; done)), H', ⟨by first | omega | exact Nat.le_refl _⟩, ⟨by (with_reducible repeat (first | refine blk_drewN ?_ _ | refine blk_drew ?_ | refine blk_alloc ?_ _)); refine blk_far ?_ NB130_131.out _; (with_reducible repeat (first | refine blk_drewN ?_ _ | refine blk_drew ?_ | refine blk_alloc ?_ _)); refine blk_far ?_ NB130_131.out _; (with_reducible repeat (first | refine blk_drewN ?_ _ | refine blk_drew ?_ | refine blk_alloc ?_ _)); refine blk_put (cs := #[.bool true, .string a0_1]) ?_ 1 _ rfl; (with_reducible repeat (first | refine blk_drewN ?_ _ | refine blk_drew ?_ | refine blk_alloc ?_ _)); refine blk_put (cs := #[.bool a0_0, .string a0_1]) ?_ 0 _ rfl; (with_reducible repeat (first | refine blk_drewN ?_ _ | refine blk_drew ?_ | refine blk_alloc ?_ _)); exact BK130.out⟩, ⟨by (with_reducible repeat (first | refine blk_drewN ?_ _ | refine blk_drew ?_ | refine blk_alloc ?_ _)); refine blk_put (cs := #[.bool t134, .string a1_1]) ?_ 1 _ rfl; (with_reducible repeat (first | refine blk_drewN ?_ _ | refine blk_drew ?_ | refine blk_alloc ?_ _)); refine blk_put (cs := #[.bool a1_0, .string a1_1]) ?_ 0 _ rfl; (with_reducible repeat (first | refine blk_drewN ?_ _ | refine blk_drew ?_ | refine blk_alloc ?_ _)); refine blk_far ?_ NB131_130.out _; (with_reducible repeat (first | refine blk_drewN ?_ _ | refine blk_drew ?_ | refine blk_alloc ?_ _)); refine blk_far ?_ NB131_130.out _; (with_reducible repeat (first | refine blk_drewN ?_ _ | refine blk_drew ?_ | refine blk_alloc ?_ _)); exact BK131.out⟩, ⟨by repeat (first | (with_reducible first | exact HB.out | apply below_alloc | apply pw_below_drewN | apply below_drew1 | refine below_set ?_ GE130.out | refine below_set ?_ GE131.out) | exact HB.out)⟩⟩
      · replace c16 := Bool.eq_false_iff.mpr c16
        subst c16
        have H1 : (spec_intOrder.j0 k false false t133 t134 t135) = some r := by rw [if_neg (show ¬ (false = true) by decide)] at H; exact H
        clear H
        have H := H1
        clear H1
        have H' := Aside0.mk H
        clear H
        have hnb20 := NB130_131.out
        have hnc20 := NB131_130.out
        have hcz21_0 : w10.cell? ⟨gb130, 0, none⟩ = some (.bool a0_0) := (blk_cell BK130.out 0).trans rfl
        have hcz21_1 : w10.cell? ⟨gb130, 1, none⟩ = some (.string a0_1) := (blk_cell BK130.out 1).trans rfl
        have hfz21_0 := blk_frozen BK130.out 0
        have hfz21_1 := blk_frozen BK130.out 1
        go_wp2
        go_meet
        case rel => exact ⟨_, (false), (by first | rfl | (simp; done) | (simp [*]; done) | (simp [bne_nil_]; done)), H', ⟨by first | omega | exact Nat.le_refl _⟩, ⟨by (with_reducible repeat (first | refine blk_drewN ?_ _ | refine blk_drew ?_ | refine blk_alloc ?_ _)); refine blk_far ?_ NB130_131.out _; (with_reducible repeat (first | refine blk_drewN ?_ _ | refine blk_drew ?_ | refine blk_alloc ?_ _)); refine blk_far ?_ NB130_131.out _; (with_reducible repeat (first | refine blk_drewN ?_ _ | refine blk_drew ?_ | refine blk_alloc ?_ _)); refine blk_put (cs := #[.bool false, .string a0_1]) ?_ 1 _ rfl; (with_reducible repeat (first | refine blk_drewN ?_ _ | refine blk_drew ?_ | refine blk_alloc ?_ _)); refine blk_put (cs := #[.bool a0_0, .string a0_1]) ?_ 0 _ rfl; (with_reducible repeat (first | refine blk_drewN ?_ _ | refine blk_drew ?_ | refine blk_alloc ?_ _)); exact BK130.out⟩, ⟨by (with_reducible repeat (first | refine blk_drewN ?_ _ | refine blk_drew ?_ | refine blk_alloc ?_ _)); refine blk_put (cs := #[.bool t134, .string a1_1]) ?_ 1 _ rfl; (with_reducible repeat (first | refine blk_drewN ?_ _ | refine blk_drew ?_ | refine blk_alloc ?_ _)); refine blk_put (cs := #[.bool a1_0, .string a1_1]) ?_ 0 _ rfl; (with_reducible repeat (first | refine blk_drewN ?_ _ | refine blk_drew ?_ | refine blk_alloc ?_ _)); refine blk_far ?_ NB131_130.out _; (with_reducible repeat (first | refine blk_drewN ?_ _ | refine blk_drew ?_ | refine blk_alloc ?_ _)); refine blk_far ?_ NB131_130.out _; (with_reducible repeat (first | refine blk_drewN ?_ _ | refine blk_drew ?_ | refine blk_alloc ?_ _)); exact BK131.out⟩, ⟨by repeat (first | (with_reducible first | exact HB.out | apply below_alloc | apply pw_below_drewN | apply below_drew1 | refine below_set ?_ GE130.out | refine below_set ?_ GE131.out) | exact HB.out)⟩⟩
    case rest =>
      clear HC15
      try clear c1
      try clear c2
      try clear p2
      try clear c16
      try clear c17
      try clear c19
      try clear c20
      try clear hcz18_0
      try clear hcz18_1
      try clear hcz19_0
      try clear hcz19_1
      try clear hcz21_0
      try clear hcz21_1
      try clear hfz18_0
      try clear hfz18_1
      try clear hfz19_0
      try clear hfz19_1
      try clear hfz21_0
      try clear hfz21_1
      obtain ⟨kq, x9_14, rfl, HA, HJ14, BK130, BK131, HB⟩ := hcut
      cases kq with
      | zero => exact absurd HA.out (by simp [spec_intOrder.j0])
      | succ kj14 =>
        have H := HA.out
        clear HA
        simp only [spec_intOrder.j0] at H
        by_cases c22 : x9_14 = true
        · subst c22
          have H1 : (some (-1)) = some r := by rw [if_pos rfl] at H; exact H
          clear H
          have H := H1
          clear H1
          obtain rfl := Option.some.inj H
          go_wp2
          go_ret
          exact ⟨by first | rfl | (simp [errW_none, errW_some] <;> rfl) | (simp [*, errW_none, errW_some] <;> rfl) | (simp [bne_nil_]; done), by repeat (first | (with_reducible first | exact HB.out | apply below_alloc | apply pw_below_drewN | apply below_drew1 | refine below_set ?_ GE130.out | refine below_set ?_ GE131.out) | exact HB.out)⟩
        · replace c22 := Bool.eq_false_iff.mpr c22
          subst c22
          have H1 : (if t132 = true then (spec_intOrder.j1 kj14 false t132 t133 t134 t135) else (spec_intOrder.j1 kj14 t134 t132 t133 t134 t135)) = some r := by rw [if_neg (show ¬ (false = true) by decide)] at H; exact H
          clear H
          have H := H1
          clear H1
          have HC23 := Aside0.mk H
          clear H
          go_upto_region 4 with (fail)
          go_cut [17] (fun v17 wc => ∃ (kq : Nat) (x17_22 : Bool), v17 = .bool x17_22 ∧ Aside0 (spec_intOrder.j1 kq x17_22 t132 t133 t134 t135 = some r) ∧ Aside0 (kq ≤ kj14) ∧ Aside0 (wc.heap[gb130]? = some (.cells #[.bool t132, .string t133] 28 (0, 0))) ∧ Aside0 (wc.heap[gb131]? = some (.cells #[.bool t134, .string t135] 28 (0, 0))) ∧ Aside0 (Below w.heap.size w wc))
          case first =>
            have H := HC23.out
            clear HC23
            by_cases c24 : t132 = true
            · subst c24
              have H1 : (spec_intOrder.j1 kj14 false true t133 t134 t135) = some r := by rw [if_pos rfl] at H; exact H
              clear H
              have H := H1
              clear H1
              have H' := Aside0.mk H
              clear H
              have hnb25 := NB130_131.out
              have hnc25 := NB131_130.out
              have hcz26_0 : wc.cell? ⟨gb130, 0, none⟩ = some (.bool true) := (blk_cell BK130.out 0).trans rfl
              have hcz26_1 : wc.cell? ⟨gb130, 1, none⟩ = some (.string t133) := (blk_cell BK130.out 1).trans rfl
              have hfz26_0 := blk_frozen BK130.out 0
              have hfz26_1 := blk_frozen BK130.out 1
              go_wp2
              go_meet
              case rel => exact ⟨_, (false), (by first | rfl | (simp; done) | (simp [*]; done) | (simp [bne_nil_]; done)), H', ⟨by have := HJ14.out; first | omega | exact Nat.le_refl _⟩, ⟨by (with_reducible repeat (first | refine blk_drewN ?_ _ | refine blk_drew ?_ | refine blk_alloc ?_ _)); exact BK130.out⟩, ⟨by (with_reducible repeat (first | refine blk_drewN ?_ _ | refine blk_drew ?_ | refine blk_alloc ?_ _)); exact BK131.out⟩, ⟨by repeat (first | (with_reducible first | exact HB.out | apply below_alloc | apply pw_below_drewN | apply below_drew1 | refine below_set ?_ GE130.out | refine below_set ?_ GE131.out) | exact HB.out)⟩⟩
            · replace c24 := Bool.eq_false_iff.mpr c24
              subst c24
              have H1 : (spec_intOrder.j1 kj14 t134 false t133 t134 t135) = some r := by rw [if_neg (show ¬ (false = true) by decide)] at H; exact H
              clear H
              have H := H1
              clear H1
              have H' := Aside0.mk H
              clear H
              have hnb27 := NB130_131.out
              have hnc27 := NB131_130.out
              have hcz28_0 : wc.cell? ⟨gb130, 0, none⟩ = some (.bool false) := (blk_cell BK130.out 0).trans rfl
              have hcz28_1 : wc.cell? ⟨gb130, 1, none⟩ = some (.string t133) := (blk_cell BK130.out 1).trans rfl
              have hfz28_0 := blk_frozen BK130.out 0
              have hfz28_1 := blk_frozen BK130.out 1
              have hcz29_0 : wc.cell? ⟨gb131, 0, none⟩ = some (.bool t134) := (blk_cell BK131.out 0).trans rfl
              have hcz29_1 : wc.cell? ⟨gb131, 1, none⟩ = some (.string t135) := (blk_cell BK131.out 1).trans rfl
              have hfz29_0 := blk_frozen BK131.out 0
              have hfz29_1 := blk_frozen BK131.out 1
              go_wp2
              go_meet
              case rel => exact ⟨_, (t134), (by first | rfl | (simp; done) | (simp [*]; done) | (simp [bne_nil_]; done)), H', ⟨by have := HJ14.out; first | omega | exact Nat.le_refl _⟩, ⟨by (with_reducible repeat (first | refine blk_drewN ?_ _ | refine blk_drew ?_ | refine blk_alloc ?_ _)); exact BK130.out⟩, ⟨by (with_reducible repeat (first | refine blk_drewN ?_ _ | refine blk_drew ?_ | refine blk_alloc ?_ _)); exact BK131.out⟩, ⟨by repeat (first | (with_reducible first | exact HB.out | apply below_alloc | apply pw_below_drewN | apply below_drew1 | refine below_set ?_ GE130.out | refine below_set ?_ GE131.out) | exact HB.out)⟩⟩
          case rest =>
            clear HC23
            try clear c1
            try clear c2
            try clear p2
            try clear c16
            try clear c17
            try clear c19
            try clear c20
            try clear c22
            try clear c24
            try clear c25
            try clear c27
            try clear hcz18_0
            try clear hcz18_1
            try clear hcz19_0
            try clear hcz19_1
            try clear hcz21_0
            try clear hcz21_1
            try clear hcz26_0
            try clear hcz26_1
            try clear hcz28_0
            try clear hcz28_1
            try clear hcz29_0
            try clear hcz29_1
            try clear hfz18_0
            try clear hfz18_1
            try clear hfz19_0
            try clear hfz19_1
            try clear hfz21_0
            try clear hfz21_1
            try clear hfz26_0
            try clear hfz26_1
            try clear hfz28_0
            try clear hfz28_1
            try clear hfz29_0
            try clear hfz29_1
            try clear p2
            obtain ⟨kq, x17_22, rfl, HA, HJ22, BK130, BK131, HB⟩ := hcut
            cases kq with
            | zero => exact absurd HA.out (by simp [spec_intOrder.j1])
            | succ kj22 =>
              have H := HA.out
              clear HA
              simp only [spec_intOrder.j1] at H
              by_cases c30 : x17_22 = true
              · subst c30
                have H1 : (some 1) = some r := by rw [if_pos rfl] at H; exact H
                clear H
                have H := H1
                clear H1
                obtain rfl := Option.some.inj H
                go_wp2
                go_ret
                exact ⟨by first | rfl | (simp [errW_none, errW_some] <;> rfl) | (simp [*, errW_none, errW_some] <;> rfl) | (simp [bne_nil_]; done), by repeat (first | (with_reducible first | exact HB.out | apply below_alloc | apply pw_below_drewN | apply below_drew1 | refine below_set ?_ GE130.out | refine below_set ?_ GE131.out) | exact HB.out)⟩
              · replace c30 := Bool.eq_false_iff.mpr c30
                subst c30
                have H1 : (if t132 = true then (spec_intOrder.j2 kj22 t134 t135 t132 t133) else (spec_intOrder.j2 kj22 t132 t133 t134 t135)) = some r := by rw [if_neg (show ¬ (false = true) by decide)] at H; exact H
                clear H
                have H := H1
                clear H1
                by_cases c31 : t132 = true
                · subst c31
                  have H1 : (spec_intOrder.j2 kj22 t134 t135 true t133) = some r := by rw [if_pos rfl] at H; exact H
                  clear H
                  have H := H1
                  clear H1
                  have H' := Aside0.mk H
                  clear H
                  have hnb32 := NB130_131.out
                  have hnc32 := NB131_130.out
                  have hcz33_0 : wc.cell? ⟨gb130, 0, none⟩ = some (.bool true) := (blk_cell BK130.out 0).trans rfl
                  have hcz33_1 : wc.cell? ⟨gb130, 1, none⟩ = some (.string t133) := (blk_cell BK130.out 1).trans rfl
                  have hfz33_0 := blk_frozen BK130.out 0
                  have hfz33_1 := blk_frozen BK130.out 1
                  have hcz34_0 : wc.cell? ⟨gb131, 0, none⟩ = some (.bool t134) := (blk_cell BK131.out 0).trans rfl
                  have hcz34_1 : wc.cell? ⟨gb131, 1, none⟩ = some (.string t135) := (blk_cell BK131.out 1).trans rfl
                  have hfz34_0 := blk_frozen BK131.out 0
                  have hfz34_1 := blk_frozen BK131.out 1
                  go_wp2
                  go_meet
                  case rel => exact ⟨_, (t134), (t135), (true), (t133), H', ⟨by have := HJ14.out; have := HJ22.out; first | omega | exact Nat.le_refl _⟩, ⟨by (with_reducible repeat (first | refine blk_drewN ?_ _ | refine blk_drew ?_ | refine blk_alloc ?_ _)); refine blk_far ?_ NB130_131.out _; (with_reducible repeat (first | refine blk_drewN ?_ _ | refine blk_drew ?_ | refine blk_alloc ?_ _)); refine blk_far ?_ NB130_131.out _; (with_reducible repeat (first | refine blk_drewN ?_ _ | refine blk_drew ?_ | refine blk_alloc ?_ _)); refine blk_put (cs := #[.bool t134, .string t133]) ?_ 1 _ rfl; (with_reducible repeat (first | refine blk_drewN ?_ _ | refine blk_drew ?_ | refine blk_alloc ?_ _)); refine blk_put (cs := #[.bool true, .string t133]) ?_ 0 _ rfl; (with_reducible repeat (first | refine blk_drewN ?_ _ | refine blk_drew ?_ | refine blk_alloc ?_ _)); exact BK130.out⟩, ⟨by (with_reducible repeat (first | refine blk_drewN ?_ _ | refine blk_drew ?_ | refine blk_alloc ?_ _)); refine blk_put (cs := #[.bool true, .string t135]) ?_ 1 _ rfl; (with_reducible repeat (first | refine blk_drewN ?_ _ | refine blk_drew ?_ | refine blk_alloc ?_ _)); refine blk_put (cs := #[.bool t134, .string t135]) ?_ 0 _ rfl; (with_reducible repeat (first | refine blk_drewN ?_ _ | refine blk_drew ?_ | refine blk_alloc ?_ _)); refine blk_far ?_ NB131_130.out _; (with_reducible repeat (first | refine blk_drewN ?_ _ | refine blk_drew ?_ | refine blk_alloc ?_ _)); refine blk_far ?_ NB131_130.out _; (with_reducible repeat (first | refine blk_drewN ?_ _ | refine blk_drew ?_ | refine blk_alloc ?_ _)); exact BK131.out⟩, ⟨by repeat (first | (with_reducible first | exact HB.out | apply below_alloc | apply pw_below_drewN | apply below_drew1 | refine below_set ?_ GE130.out | refine below_set ?_ GE131.out) | exact HB.out)⟩⟩
                · replace c31 := Bool.eq_false_iff.mpr c31
                  subst c31
                  have H1 : (spec_intOrder.j2 kj22 false t133 t134 t135) = some r := by rw [if_neg (show ¬ (false = true) by decide)] at H; exact H
                  clear H
                  have H := H1
                  clear H1
                  have H' := Aside0.mk H
                  clear H
                  have hnb35 := NB130_131.out
                  have hnc35 := NB131_130.out
                  have hcz36_0 : wc.cell? ⟨gb130, 0, none⟩ = some (.bool false) := (blk_cell BK130.out 0).trans rfl
                  have hcz36_1 : wc.cell? ⟨gb130, 1, none⟩ = some (.string t133) := (blk_cell BK130.out 1).trans rfl
                  have hfz36_0 := blk_frozen BK130.out 0
                  have hfz36_1 := blk_frozen BK130.out 1
                  go_wp2
                  go_meet
                  case rel => exact ⟨_, (false), (t133), (t134), (t135), H', ⟨by have := HJ14.out; have := HJ22.out; first | omega | exact Nat.le_refl _⟩, ⟨by (with_reducible repeat (first | refine blk_drewN ?_ _ | refine blk_drew ?_ | refine blk_alloc ?_ _)); exact BK130.out⟩, ⟨by (with_reducible repeat (first | refine blk_drewN ?_ _ | refine blk_drew ?_ | refine blk_alloc ?_ _)); exact BK131.out⟩, ⟨by repeat (first | (with_reducible first | exact HB.out | apply below_alloc | apply pw_below_drewN | apply below_drew1 | refine below_set ?_ GE130.out | refine below_set ?_ GE131.out) | exact HB.out)⟩⟩
  case rest =>
    clear HC5
    try clear c1
    try clear c2
    try clear p2
    try clear c3
    try clear c16
    try clear c17
    try clear c19
    try clear c20
    try clear c22
    try clear c24
    try clear c25
    try clear c27
    try clear c30
    try clear c31
    try clear c32
    try clear c35
    try clear hcz18_0
    try clear hcz18_1
    try clear hcz19_0
    try clear hcz19_1
    try clear hcz21_0
    try clear hcz21_1
    try clear hcz26_0
    try clear hcz26_1
    try clear hcz28_0
    try clear hcz28_1
    try clear hcz29_0
    try clear hcz29_1
    try clear hcz33_0
    try clear hcz33_1
    try clear hcz34_0
    try clear hcz34_1
    try clear hcz36_0
    try clear hcz36_1
    try clear hfz18_0
    try clear hfz18_1
    try clear hfz19_0
    try clear hfz19_1
    try clear hfz21_0
    try clear hfz21_1
    try clear hfz26_0
    try clear hfz26_1
    try clear hfz28_0
    try clear hfz28_1
    try clear hfz29_0
    try clear hfz29_1
    try clear hfz33_0
    try clear hfz33_1
    try clear hfz34_0
    try clear hfz34_1
    try clear hfz36_0
    try clear hfz36_1
    try clear p2
    obtain ⟨kq, x131000_4, x131001_4, x132000_4, x132001_4, HA, HJ4, BK130, BK131, HB⟩ := hcut
    cases kq with
    | zero => exact absurd HA.out (by simp [spec_intOrder.j2])
    | succ kj4 =>
      have H := HA.out
      clear HA
      simp only [spec_intOrder.j2] at H
      by_cases c37 : (x131001_4.size : Int) = (x132001_4.size : Int)
      · rw [if_pos c37] at H
        have c37b0 : ((x131001_4.size : Int) == (x132001_4.size : Int)) = true := beq_iff_eq.mpr c37
        have c37b1 : ((x131001_4.size : Int) != (x132001_4.size : Int)) = false := bne_eq_false_iff_eq.mpr c37
        have c37b2 : (x131001_4.size == x132001_4.size) = true := by first | simpa using c37 | (simp at c37 ⊢; omega)
        clear c37
        replace H := Option.bind_eq_some_iff.mp H
        obtain ⟨t136, A380, H⟩ := H
        replace H : (some t136) = some r := H
        have A38 := Aside0.mk A380
        clear A380
        obtain rfl := Option.some.inj H
        have hnb39 := NB130_131.out
        have hnc39 := NB131_130.out
        have hcz40_0 : wc.cell? ⟨gb130, 0, none⟩ = some (.bool x131000_4) := (blk_cell BK130.out 0).trans rfl
        have hcz40_1 : wc.cell? ⟨gb130, 1, none⟩ = some (.string x131001_4) := (blk_cell BK130.out 1).trans rfl
        have hfz40_0 := blk_frozen BK130.out 0
        have hfz40_1 := blk_frozen BK130.out 1
        have hcz41_0 : wc.cell? ⟨gb131, 0, none⟩ = some (.bool x132000_4) := (blk_cell BK131.out 0).trans rfl
        have hcz41_1 : wc.cell? ⟨gb131, 1, none⟩ = some (.string x132001_4) := (blk_cell BK131.out 1).trans rfl
        have hfz41_0 := blk_frozen BK131.out 0
        have hfz41_1 := blk_frozen BK131.out 1
        go_wp2_with (first | ((with_reducible refine gate_callee (f := 21) rfl ?_); refine goesL_ (some 48) rfl rfl Tryd.func21 (by kernel_rfl) rfl #[.string x131001_4, .string x132001_4] rfl (by (try simp only [List.map_toArray, List.map_cons, List.map_nil]); first | done | rfl | (simp only [List.length_drop, List.length_take]; rfl)) ?_; (with_reducible refine (Giv.spec_order.calls x131001_4 x132001_4 t136 _ A38.out).mono ?_); rintro e w' ⟨rfl, ⟨nd, rfl⟩⟩; refine ⟨_, rfl, ?_⟩))
        go_ret
        exact ⟨by first | rfl | (simp [errW_none, errW_some] <;> rfl) | (simp [*, errW_none, errW_some] <;> rfl) | (simp [bne_nil_]; done), by repeat (first | (with_reducible first | exact HB.out | apply below_alloc | apply pw_below_drewN | apply below_drew1 | refine below_set ?_ GE130.out | refine below_set ?_ GE131.out) | exact HB.out)⟩
      · rw [if_neg c37] at H
        have c37b0 : ((x131001_4.size : Int) == (x132001_4.size : Int)) = false := beq_eq_false_iff_ne.mpr c37
        have c37b1 : ((x131001_4.size : Int) != (x132001_4.size : Int)) = true := bne_iff_ne.mpr c37
        have c37b2 : (x131001_4.size == x132001_4.size) = false := by first | simpa using c37 | (simp at c37 ⊢; omega)
        replace H := Option.bind_eq_some_iff.mp H
        obtain ⟨t137, A420, H⟩ := H
        replace H : (some t137) = some r := H
        have A42 := Aside0.mk A420
        clear A420
        obtain rfl := Option.some.inj H
        have hnb43 := NB130_131.out
        have hnc43 := NB131_130.out
        have hcz44_0 : wc.cell? ⟨gb130, 0, none⟩ = some (.bool x131000_4) := (blk_cell BK130.out 0).trans rfl
        have hcz44_1 : wc.cell? ⟨gb130, 1, none⟩ = some (.string x131001_4) := (blk_cell BK130.out 1).trans rfl
        have hfz44_0 := blk_frozen BK130.out 0
        have hfz44_1 := blk_frozen BK130.out 1
        have hcz45_0 : wc.cell? ⟨gb131, 0, none⟩ = some (.bool x132000_4) := (blk_cell BK131.out 0).trans rfl
        have hcz45_1 : wc.cell? ⟨gb131, 1, none⟩ = some (.string x132001_4) := (blk_cell BK131.out 1).trans rfl
        have hfz45_0 := blk_frozen BK131.out 0
        have hfz45_1 := blk_frozen BK131.out 1
        go_wp2_with (first | ((with_reducible refine gate_callee (f := 20) rfl ?_); refine goesL_ (some 43) rfl rfl Tryd.func20 (by kernel_rfl) rfl #[.int .i64 (x131001_4.size : Int), .int .i64 (x132001_4.size : Int)] rfl (by (try simp only [List.map_toArray, List.map_cons, List.map_nil]); first | done | rfl | (simp only [List.length_drop, List.length_take]; rfl)) ?_; (with_reducible refine (spec_orderInts.calls (x131001_4.size : Int) (x132001_4.size : Int) t137 _ A42.out).mono ?_); rintro e w' ⟨rfl, ⟨nd, rfl⟩⟩; refine ⟨_, rfl, ?_⟩))
        go_ret
        exact ⟨by first | rfl | (simp [errW_none, errW_some] <;> rfl) | (simp [*, errW_none, errW_some] <;> rfl) | (simp [bne_nil_]; done), by repeat (first | (with_reducible first | exact HB.out | apply below_alloc | apply pw_below_drewN | apply below_drew1 | refine below_set ?_ GE130.out | refine below_set ?_ GE131.out) | exact HB.out)⟩

/-! ### spec_CompareNumbers: function 8 -/
mutual
def spec_CompareNumbers.l0 : Nat → List (S28) → List (S28) → Int → Option (Int)
  | 0, _, _, _ => none
  | k + 1, x0, x1, x5 => if x5 < (x0.length : Int) then (spec_CompareNumbers.j1 k x0 x1 x5 true) else (spec_CompareNumbers.j1 k x0 x1 x5 (decide (x5 < (x1.length : Int))))
def spec_CompareNumbers.j1 : Nat → List (S28) → List (S28) → Int → Bool → Option (Int)
  | 0, _, _, _, _ => none
  | k + 1, x0, x1, x5, x18 => if x18 = true then (if x5 < (x0.length : Int) then (if 0 ≤ x5 then (spec_CompareNumbers.j2 k x0 x1 x5 ((rd_T28 x0 x5).f0) ((rd_T28 x0 x5).f1) false (⟨#[]⟩ : ByteArray)) else (none)) else (spec_CompareNumbers.j2 k x0 x1 x5 false (⟨#[]⟩ : ByteArray) false (⟨#[]⟩ : ByteArray))) else (some 0)
def spec_CompareNumbers.j2 : Nat → List (S28) → List (S28) → Int → Bool → ByteArray → Bool → ByteArray → Option (Int)
  | 0, _, _, _, _, _, _, _ => none
  | k + 1, x0, x1, x5, x139000, x139001, x140000, x140001 => if x5 < (x1.length : Int) then (if 0 ≤ x5 then ((spec_intOrder.f k x139000 x139001 ((rd_T28 x1 x5).f0) ((rd_T28 x1 x5).f1)).bind fun t142 => (if t142 = 0 then (spec_CompareNumbers.l0 k x0 x1 (wrap64 (x5 + 1))) else (some t142))) else (none)) else ((spec_intOrder.f k x139000 x139001 x140000 x140001).bind fun t143 => (if t143 = 0 then (spec_CompareNumbers.l0 k x0 x1 (wrap64 (x5 + 1))) else (some t143)))
end
def spec_CompareNumbers.f (k : Nat) (l0 : List (S28)) (l1 : List (S28)) : Option (Int) := spec_CompareNumbers.l0 k l0 l1 0
theorem spec_CompareNumbers.mono_l : ∀ k, (∀ y0 y1 y2, LeO (spec_CompareNumbers.l0 k y0 y1 y2) (spec_CompareNumbers.l0 (k + 1) y0 y1 y2)) ∧ (∀ y0 y1 y2 y3, LeO (spec_CompareNumbers.j1 k y0 y1 y2 y3) (spec_CompareNumbers.j1 (k + 1) y0 y1 y2 y3)) ∧ (∀ y0 y1 y2 y3 y4 y5 y6, LeO (spec_CompareNumbers.j2 k y0 y1 y2 y3 y4 y5 y6) (spec_CompareNumbers.j2 (k + 1) y0 y1 y2 y3 y4 y5 y6))
  | 0 => ⟨fun _ _ _ r h => by simp [spec_CompareNumbers.l0] at h, fun _ _ _ _ r h => by simp [spec_CompareNumbers.j1] at h, fun _ _ _ _ _ _ _ r h => by simp [spec_CompareNumbers.j2] at h⟩
  | k + 1 => by
    obtain ⟨ih0, ih1, ih2⟩ := spec_CompareNumbers.mono_l k
    refine ⟨?_, ?_, ?_⟩
    · intro y0 y1 y2
      unfold spec_CompareNumbers.l0
      repeat' first
      | (with_reducible exact ih0 _ _ _)
      | (with_reducible exact ih1 _ _ _ _)
      | (with_reducible exact ih2 _ _ _ _ _ _ _)
      | (with_reducible exact spec_intOrder.mono _ _ _ _ _)
      | (with_reducible exact LeO.refl _)
      | (with_reducible exact LeO.none _)
      | (with_reducible refine LeO.ite ?_ ?_)
      | (with_reducible refine LeO.bind ?_ (fun _ => ?_))
      | exact ih0 _ _ _
      | exact ih1 _ _ _ _
      | exact ih2 _ _ _ _ _ _ _
      | exact spec_intOrder.mono _ _ _ _ _
      | exact LeO.none _
      | refine LeO.ite ?_ ?_
      | refine LeO.bind ?_ (fun _ => ?_)
    · intro y0 y1 y2 y3
      unfold spec_CompareNumbers.j1
      repeat' first
      | (with_reducible exact ih0 _ _ _)
      | (with_reducible exact ih1 _ _ _ _)
      | (with_reducible exact ih2 _ _ _ _ _ _ _)
      | (with_reducible exact spec_intOrder.mono _ _ _ _ _)
      | (with_reducible exact LeO.refl _)
      | (with_reducible exact LeO.none _)
      | (with_reducible refine LeO.ite ?_ ?_)
      | (with_reducible refine LeO.bind ?_ (fun _ => ?_))
      | exact ih0 _ _ _
      | exact ih1 _ _ _ _
      | exact ih2 _ _ _ _ _ _ _
      | exact spec_intOrder.mono _ _ _ _ _
      | exact LeO.none _
      | refine LeO.ite ?_ ?_
      | refine LeO.bind ?_ (fun _ => ?_)
    · intro y0 y1 y2 y3 y4 y5 y6
      unfold spec_CompareNumbers.j2
      repeat' first
      | (with_reducible exact ih0 _ _ _)
      | (with_reducible exact ih1 _ _ _ _)
      | (with_reducible exact ih2 _ _ _ _ _ _ _)
      | (with_reducible exact spec_intOrder.mono _ _ _ _ _)
      | (with_reducible exact LeO.refl _)
      | (with_reducible exact LeO.none _)
      | (with_reducible refine LeO.ite ?_ ?_)
      | (with_reducible refine LeO.bind ?_ (fun _ => ?_))
      | exact ih0 _ _ _
      | exact ih1 _ _ _ _
      | exact ih2 _ _ _ _ _ _ _
      | exact spec_intOrder.mono _ _ _ _ _
      | exact LeO.none _
      | refine LeO.ite ?_ ?_
      | refine LeO.bind ?_ (fun _ => ?_)
theorem spec_CompareNumbers.mono : ∀ a0 a1 k, LeO (spec_CompareNumbers.f k a0 a1) (spec_CompareNumbers.f (k + 1) a0 a1) := by
  intro a0 a1 k
  obtain ⟨ih0, ih1, ih2⟩ := spec_CompareNumbers.mono_l k
  unfold spec_CompareNumbers.f
  repeat' first
      | (with_reducible exact ih0 _ _ _)
      | (with_reducible exact ih1 _ _ _ _)
      | (with_reducible exact ih2 _ _ _ _ _ _ _)
      | (with_reducible exact spec_intOrder.mono _ _ _ _ _)
      | (with_reducible exact LeO.refl _)
      | (with_reducible exact LeO.none _)
      | (with_reducible refine LeO.ite ?_ ?_)
      | (with_reducible refine LeO.bind ?_ (fun _ => ?_))
      | exact ih0 _ _ _
      | exact ih1 _ _ _ _
      | exact ih2 _ _ _ _ _ _ _
      | exact spec_intOrder.mono _ _ _ _ _
      | exact LeO.none _
      | refine LeO.ite ?_ ?_
      | refine LeO.bind ?_ (fun _ => ?_)
set_option maxHeartbeats 8000000 in
set_option maxRecDepth 100000 in
theorem spec_CompareNumbers.calls (k : Nat) (A0 : Option Addr) (c0 : Nat) (l0 : List (S28)) (A1 : Option Addr) (c1 : Nat) (l1 : List (S28)) (r : Int) (w : World) (hr0 : Kd.C k28 w A0 l0.length l0) (hc0 : l0.length ≤ c0) (hr1 : Kd.C k28 w A1 l1.length l1) (hc1 : l1.length ≤ c1) (h : spec_CompareNumbers.f k l0 l1 = some r) :
    Calls Tryd.prog 8 #[.slice A0 l0.length c0, .slice A1 l1.length c1] w fun e w' => e = .returned (.int .i64 r) ∧ Below w.heap.size w w' := by
  have hu28 := Tryd.underlying28
  have HR0 := Aside0.mk hr0
  have HC0 := Aside0.mk hc0
  clear hr0 hc0
  have HR1 := Aside0.mk hr1
  have HC1 := Aside0.mk hc1
  clear hr1 hc1
  have HB := Aside0.mk (Below.refl w.heap.size w)
  have H : (spec_CompareNumbers.l0 k l0 l1 0) = some r := h
  clear h
  have H' := Aside0.mk H
  clear H
  go_enter Tryd.func8, Tryd.ntmps8
  go_wp2
  go_loopg [5] k (fun kq v5 w' => ∃ (x5_1 : Int), v5 = .int .i64 x5_1 ∧ Aside0 (spec_CompareNumbers.l0 kq l0 l1 x5_1 = some r) ∧ Aside0 (kq ≤ k) ∧ Aside0 (Below w.heap.size w w'))
  case atStart => exact ⟨(0), (by first | rfl | (simp; done) | (simp [*]; done) | (simp [bne_nil_]; done)), H', ⟨Nat.le_refl _⟩, ⟨by repeat (first | (with_reducible first | exact HB.out | apply below_alloc | apply pw_below_drewN | apply below_drew1) | exact HB.out)⟩⟩
  case round =>
    clear H'
    try clear c1
    try clear p2
    obtain ⟨x5_1, rfl, HA, HK1, HB⟩ := hrel
    cases gk with
    | zero => exact absurd HA.out (by simp [spec_CompareNumbers.l0])
    | succ k1 =>
      have H := HA.out
      clear HA
      simp only [spec_CompareNumbers.l0] at H
      have HC3 := Aside0.mk H
      clear H
      go_upto_region 2 with (fail)
      go_cut [18] (fun v18 wc => ∃ (kq : Nat) (x18_2 : Bool), v18 = .bool x18_2 ∧ Aside0 (spec_CompareNumbers.j1 kq l0 l1 x5_1 x18_2 = some r) ∧ Aside0 (kq ≤ k1) ∧ Aside0 (Below w.heap.size w wc))
      case first =>
        have H := HC3.out
        clear HC3
        by_cases c4 : x5_1 < (l0.length : Int)
        · rw [if_pos c4] at H
          have c4b0 : decide (x5_1 < (l0.length : Int)) = true := decide_eq_true c4
          clear c4
          (first | rw [c4b0] | (simp only [i64_w, i32_w]; rw [c4b0]) | skip)
          have H' := Aside0.mk H
          clear H
          go_wp2
          go_meet
          case rel => exact ⟨_, (true), (by first | rfl | (simp; done) | (simp [*]; done) | (simp [bne_nil_]; done)), H', ⟨by have := HK1.out; first | omega | exact Nat.le_refl _⟩, ⟨by repeat (first | (with_reducible first | exact HB.out | apply below_alloc | apply pw_below_drewN | apply below_drew1) | exact HB.out)⟩⟩
        · rw [if_neg c4] at H
          have c4b0 : decide (x5_1 < (l0.length : Int)) = false := decide_eq_false c4
          clear c4
          (first | rw [c4b0] | (simp only [i64_w, i32_w]; rw [c4b0]) | skip)
          have H' := Aside0.mk H
          clear H
          go_wp2
          go_meet
          case rel => exact ⟨_, (decide (x5_1 < (l1.length : Int))), (by first | rfl | (simp; done) | (simp [*]; done) | (simp [bne_nil_]; done)), H', ⟨by have := HK1.out; first | omega | exact Nat.le_refl _⟩, ⟨by repeat (first | (with_reducible first | exact HB.out | apply below_alloc | apply pw_below_drewN | apply below_drew1) | exact HB.out)⟩⟩
      case rest =>
        clear HC3
        try clear c1
        try clear p2
        try clear c4
        try clear c4b0
        try clear p2
        obtain ⟨kq, x18_2, rfl, HA, HJ2, HB⟩ := hcut
        cases kq with
        | zero => exact absurd HA.out (by simp [spec_CompareNumbers.j1])
        | succ kj2 =>
          have H := HA.out
          clear HA
          simp only [spec_CompareNumbers.j1] at H
          by_cases c5 : x18_2 = true
          · subst c5
            have H1 : (if x5_1 < (l0.length : Int) then (if 0 ≤ x5_1 then (spec_CompareNumbers.j2 kj2 l0 l1 x5_1 ((rd_T28 l0 x5_1).f0) ((rd_T28 l0 x5_1).f1) false (⟨#[]⟩ : ByteArray)) else (none)) else (spec_CompareNumbers.j2 kj2 l0 l1 x5_1 false (⟨#[]⟩ : ByteArray) false (⟨#[]⟩ : ByteArray))) = some r := by rw [if_pos rfl] at H; exact H
            clear H
            have H := H1
            clear H1
            have HC6 := Aside0.mk H
            clear H
            go_upto_if 24 with (first | ((with_reducible refine gate_dst (N := 6) rfl ?_); (try (refine gate_guard (by rfl) ?_; dsimp only)); refine box_event ?hg (N := 6) ?hd (cs := #[.bool false, .string (⟨#[]⟩ : ByteArray)]) (t := 28) ?hr ?_; (case hd => rfl); (case hg => rfl); (case hr => first | (go_simp; done) | (go_simp; rfl)); intro gb138 hg w7 hbox hb; have n0_ := Aside0.mk (below_step (by repeat (first | (with_reducible first | exact HB.out | apply below_alloc | apply pw_below_drewN | apply below_drew1) | exact HB.out)) hb); have n1_ := Aside0.mk (hbox); have n2_ := Aside0.mk ((by rw [hg]; exact (below_size (by repeat (first | (with_reducible first | exact HB.out | apply below_alloc | apply pw_below_drewN | apply below_drew1) | exact HB.out))) : w.heap.size ≤ gb138)); have n3_ := Aside0.mk ((by rw [hg]; exact (below_size (by repeat (first | (with_reducible first | exact HB.out | apply below_alloc | apply pw_below_drewN | apply below_drew1) | exact HB.out))) : w.heap.size ≤ gb138)); clear HB; have HB := n0_; have BK138 := n1_; have GW138 := n2_; have GE138 := n3_; clear n0_ n1_ n2_ n3_; clear hb hbox hg) | ((with_reducible refine gate_dst (N := 7) rfl ?_); (try (refine gate_guard (by rfl) ?_; dsimp only)); refine box_event ?hg (N := 7) ?hd (cs := #[.bool false, .string (⟨#[]⟩ : ByteArray)]) (t := 28) ?hr ?_; (case hd => rfl); (case hg => rfl); (case hr => first | (go_simp; done) | (go_simp; rfl)); intro gb139 hg w8 hbox hb; have n0_ := Aside0.mk (blk_below (g := gb138) (o := .cells #[.bool false, .string (⟨#[]⟩ : ByteArray)] 28 (0, 0)) (by (with_reducible repeat (first | refine blk_drewN ?_ _ | refine blk_drew ?_ | refine blk_alloc ?_ _)); exact BK138.out) hb); have n1_ := Aside0.mk (below_step (by repeat (first | (with_reducible first | exact HB.out | apply below_alloc | apply pw_below_drewN | apply below_drew1 | refine below_set ?_ GE138.out) | exact HB.out)) hb); have n2_ := Aside0.mk (hbox); have n3_ := Aside0.mk ((by rw [hg]; exact (below_size (by repeat (first | (with_reducible first | exact HB.out | apply below_alloc | apply pw_below_drewN | apply below_drew1 | refine below_set ?_ GE138.out) | exact HB.out))) : w.heap.size ≤ gb139)); have n4_ := Aside0.mk ((by rw [hg]; exact (below_size (by repeat (first | (with_reducible first | exact HB.out | apply below_alloc | apply pw_below_drewN | apply below_drew1 | refine below_set ?_ GE138.out) | exact HB.out))) : w.heap.size ≤ gb139)); have n5_ := Aside0.mk ((by rw [hg]; exact Nat.ne_of_lt (blk_lt (g := gb138) (o := .cells #[.bool false, .string (⟨#[]⟩ : ByteArray)] 28 (0, 0)) (by (with_reducible repeat (first | refine blk_drewN ?_ _ | refine blk_drew ?_ | refine blk_alloc ?_ _)); exact BK138.out)) : gb138 ≠ gb139)); have n6_ := Aside0.mk ((by rw [hg]; exact Nat.ne_of_gt (blk_lt (g := gb138) (o := .cells #[.bool false, .string (⟨#[]⟩ : ByteArray)] 28 (0, 0)) (by (with_reducible repeat (first | refine blk_drewN ?_ _ | refine blk_drew ?_ | refine blk_alloc ?_ _)); exact BK138.out)) : gb139 ≠ gb138)); clear BK138; clear HB; have BK138 := n0_; have HB := n1_; have BK139 := n2_; have GW139 := n3_; have GE139 := n4_; have NB138_139 := n5_; have NB139_138 := n6_; clear n0_ n1_ n2_ n3_ n4_ n5_ n6_; clear hb hbox hg))
            (try simp only [Act.put, List.setIfInBounds_toArray, List.set_cons_zero, List.set_cons_succ])
            go_cut [] (fun wc => ∃ (kq : Nat) (x139000_5 : Bool) (x139001_5 : ByteArray), Aside0 (spec_CompareNumbers.j2 kq l0 l1 x5_1 x139000_5 x139001_5 false (⟨#[]⟩ : ByteArray) = some r) ∧ Aside0 (kq ≤ kj2) ∧ Aside0 (wc.heap[gb138]? = some (.cells #[.bool x139000_5, .string x139001_5] 28 (0, 0))) ∧ Aside0 (wc.heap[gb139]? = some (.cells #[.bool false, .string (⟨#[]⟩ : ByteArray)] 28 (0, 0))) ∧ Aside0 (Below w.heap.size w wc))
            case first =>
              have H := HC6.out
              clear HC6
              by_cases c9 : x5_1 < (l0.length : Int)
              · rw [if_pos c9] at H
                have c9b0 : decide (x5_1 < (l0.length : Int)) = true := decide_eq_true c9
                clear c9
                (first | rw [c9b0] | (simp only [i64_w, i32_w]; rw [c9b0]) | skip)
                by_cases c10 : 0 ≤ x5_1
                · rw [if_pos c10] at H
                  have c10b0 : decide (0 ≤ x5_1) = true := decide_eq_true c10
                  clear c10
                  have H' := Aside0.mk H
                  clear H
                  have p140 : 0 ≤ (x5_1 : Int) := of_decide_eq_true (by first | (with_reducible assumption) | assumption)
                  have q140 : x5_1 < (l0.length : Int) := of_decide_eq_true (by first | (with_reducible assumption) | assumption)
                  obtain ⟨ad140, e140, hx140_0, hx140_1⟩ := at_T28 HR0.out x5_1 p140 q140
                  cases e140
                  replace hx140_0 := (HB.out.cell (World.block_lt_of_cell? w _ hx140_0)).trans hx140_0
                  replace hx140_1 := (HB.out.cell (World.block_lt_of_cell? w _ hx140_1)).trans hx140_1
                  replace p140 := eq_true p140
                  replace q140 := eq_true q140
                  have hnb11 := NB138_139.out
                  have hnc11 := NB139_138.out
                  have hcz12_0 : w8.cell? ⟨gb138, 0, none⟩ = some (.bool false) := (blk_cell BK138.out 0).trans rfl
                  have hcz12_1 : w8.cell? ⟨gb138, 1, none⟩ = some (.string (⟨#[]⟩ : ByteArray)) := (blk_cell BK138.out 1).trans rfl
                  have hfz12_0 := blk_frozen BK138.out 0
                  have hfz12_1 := blk_frozen BK138.out 1
                  go_wp2
                  go_meet
                  case rel => exact ⟨_, ((rd_T28 l0 x5_1).f0), ((rd_T28 l0 x5_1).f1), H', ⟨by have := HK1.out; have := HJ2.out; first | omega | exact Nat.le_refl _⟩, ⟨by (with_reducible repeat (first | refine blk_drewN ?_ _ | refine blk_drew ?_ | refine blk_alloc ?_ _)); refine blk_put (cs := #[.bool ((rd_T28 l0 x5_1).f0), .string (⟨#[]⟩ : ByteArray)]) ?_ 1 _ rfl; (with_reducible repeat (first | refine blk_drewN ?_ _ | refine blk_drew ?_ | refine blk_alloc ?_ _)); refine blk_put (cs := #[.bool false, .string (⟨#[]⟩ : ByteArray)]) ?_ 0 _ rfl; (with_reducible repeat (first | refine blk_drewN ?_ _ | refine blk_drew ?_ | refine blk_alloc ?_ _)); exact BK138.out⟩, ⟨by (with_reducible repeat (first | refine blk_drewN ?_ _ | refine blk_drew ?_ | refine blk_alloc ?_ _)); refine blk_far ?_ NB139_138.out _; (with_reducible repeat (first | refine blk_drewN ?_ _ | refine blk_drew ?_ | refine blk_alloc ?_ _)); refine blk_far ?_ NB139_138.out _; (with_reducible repeat (first | refine blk_drewN ?_ _ | refine blk_drew ?_ | refine blk_alloc ?_ _)); exact BK139.out⟩, ⟨by repeat (first | (with_reducible first | exact HB.out | apply below_alloc | apply pw_below_drewN | apply below_drew1 | refine below_set ?_ GE138.out | refine below_set ?_ GE139.out) | exact HB.out)⟩⟩
                · rw [if_neg c10] at H
                  exact absurd H (by simp)
              · rw [if_neg c9] at H
                have c9b0 : decide (x5_1 < (l0.length : Int)) = false := decide_eq_false c9
                clear c9
                (first | rw [c9b0] | (simp only [i64_w, i32_w]; rw [c9b0]) | skip)
                have H' := Aside0.mk H
                clear H
                go_wp2
                go_meet
                case rel => exact ⟨_, (false), ((⟨#[]⟩ : ByteArray)), H', ⟨by have := HK1.out; have := HJ2.out; first | omega | exact Nat.le_refl _⟩, ⟨by (with_reducible repeat (first | refine blk_drewN ?_ _ | refine blk_drew ?_ | refine blk_alloc ?_ _)); exact BK138.out⟩, ⟨by (with_reducible repeat (first | refine blk_drewN ?_ _ | refine blk_drew ?_ | refine blk_alloc ?_ _)); exact BK139.out⟩, ⟨by repeat (first | (with_reducible first | exact HB.out | apply below_alloc | apply pw_below_drewN | apply below_drew1 | refine below_set ?_ GE138.out | refine below_set ?_ GE139.out) | exact HB.out)⟩⟩
            case rest =>
              clear HC6
              try clear c1
              try clear p1
              try clear q1
              try clear hx1
              try clear p2
              try clear c4
              try clear c4b0
              try clear c5
              try clear c8
              try clear c9
              try clear c9b0
              try clear c10
              try clear c10b0
              try clear c11
              try clear hcz12_0
              try clear hcz12_1
              try clear hfz12_0
              try clear hfz12_1
              try clear hx140_0
              try clear hx140_1
              try clear p140
              try clear p2
              try clear q140
              obtain ⟨kq, x139000_5, x139001_5, HA, HJ5, BK138, BK139, HB⟩ := hcut
              cases kq with
              | zero => exact absurd HA.out (by simp [spec_CompareNumbers.j2])
              | succ kj5 =>
                have H := HA.out
                clear HA
                simp only [spec_CompareNumbers.j2] at H
                by_cases c13 : x5_1 < (l1.length : Int)
                · rw [if_pos c13] at H
                  have c13b0 : decide (x5_1 < (l1.length : Int)) = true := decide_eq_true c13
                  clear c13
                  by_cases c14 : 0 ≤ x5_1
                  · rw [if_pos c14] at H
                    have c14b0 : decide (0 ≤ x5_1) = true := decide_eq_true c14
                    clear c14
                    replace H := Option.bind_eq_some_iff.mp H
                    obtain ⟨t142, A150, H⟩ := H
                    replace H : (if t142 = 0 then (spec_CompareNumbers.l0 kj5 l0 l1 (wrap64 (x5_1 + 1))) else (some t142)) = some r := H
                    have A15 := Aside0.mk A150
                    clear A150
                    by_cases c16 : t142 = 0
                    · rw [if_pos c16] at H
                      have c16b0 : (t142 == 0) = true := beq_iff_eq.mpr c16
                      have c16b1 : (t142 != 0) = false := bne_eq_false_iff_eq.mpr c16
                      clear c16
                      have H' := Aside0.mk H
                      clear H
                      have p141 : 0 ≤ (x5_1 : Int) := of_decide_eq_true (by first | (with_reducible assumption) | assumption)
                      have q141 : x5_1 < (l1.length : Int) := of_decide_eq_true (by first | (with_reducible assumption) | assumption)
                      obtain ⟨ad141, e141, hx141_0, hx141_1⟩ := at_T28 HR1.out x5_1 p141 q141
                      cases e141
                      replace hx141_0 := (HB.out.cell (World.block_lt_of_cell? w _ hx141_0)).trans hx141_0
                      replace hx141_1 := (HB.out.cell (World.block_lt_of_cell? w _ hx141_1)).trans hx141_1
                      replace p141 := eq_true p141
                      replace q141 := eq_true q141
                      have hnb17 := NB139_138.out
                      have hnc17 := NB138_139.out
                      have hcz18_0 : wc.cell? ⟨gb139, 0, none⟩ = some (.bool false) := (blk_cell BK139.out 0).trans rfl
                      have hcz18_1 : wc.cell? ⟨gb139, 1, none⟩ = some (.string (⟨#[]⟩ : ByteArray)) := (blk_cell BK139.out 1).trans rfl
                      have hfz18_0 := blk_frozen BK139.out 0
                      have hfz18_1 := blk_frozen BK139.out 1
                      have hcz19_0 : wc.cell? ⟨gb138, 0, none⟩ = some (.bool x139000_5) := (blk_cell BK138.out 0).trans rfl
                      have hcz19_1 : wc.cell? ⟨gb138, 1, none⟩ = some (.string x139001_5) := (blk_cell BK138.out 1).trans rfl
                      have hfz19_0 := blk_frozen BK138.out 0
                      have hfz19_1 := blk_frozen BK138.out 1
                      go_wp2_with (first | ((with_reducible refine gate_callee (f := 16) rfl ?_); refine goesL_ (some 39) rfl rfl Tryd.func16 (by kernel_rfl) rfl #[.agg #[.bool x139000_5, .string x139001_5], .agg #[.bool ((rd_T28 l1 x5_1).f0), .string ((rd_T28 l1 x5_1).f1)]] rfl (by (try simp only [List.map_toArray, List.map_cons, List.map_nil]); first | done | rfl | (simp only [List.length_drop, List.length_take]; rfl)) ?_; (with_reducible refine (spec_intOrder.calls kj5 x139000_5 x139001_5 ((rd_T28 l1 x5_1).f0) ((rd_T28 l1 x5_1).f1) t142 _ A15.out).mono ?_); rintro e w20 ⟨rfl, hb⟩; refine ⟨_, rfl, ?_⟩; have n0_ := Aside0.mk (blk_below (g := gb138) (o := .cells #[.bool x139000_5, .string x139001_5] 28 (0, 0)) (by (with_reducible repeat (first | refine blk_drewN ?_ _ | refine blk_drew ?_ | refine blk_alloc ?_ _)); refine blk_far ?_ NB138_139.out _; (with_reducible repeat (first | refine blk_drewN ?_ _ | refine blk_drew ?_ | refine blk_alloc ?_ _)); refine blk_far ?_ NB138_139.out _; (with_reducible repeat (first | refine blk_drewN ?_ _ | refine blk_drew ?_ | refine blk_alloc ?_ _)); exact BK138.out) hb); have n1_ := Aside0.mk (blk_below (g := gb139) (o := .cells #[.bool ((rd_T28 l1 x5_1).f0), .string ((rd_T28 l1 x5_1).f1)] 28 (0, 0)) (by (with_reducible repeat (first | refine blk_drewN ?_ _ | refine blk_drew ?_ | refine blk_alloc ?_ _)); refine blk_put (cs := #[.bool ((rd_T28 l1 x5_1).f0), .string (⟨#[]⟩ : ByteArray)]) ?_ 1 _ rfl; (with_reducible repeat (first | refine blk_drewN ?_ _ | refine blk_drew ?_ | refine blk_alloc ?_ _)); refine blk_put (cs := #[.bool false, .string (⟨#[]⟩ : ByteArray)]) ?_ 0 _ rfl; (with_reducible repeat (first | refine blk_drewN ?_ _ | refine blk_drew ?_ | refine blk_alloc ?_ _)); exact BK139.out) hb); have n2_ := Aside0.mk (below_step (by repeat (first | (with_reducible first | exact HB.out | apply below_alloc | apply pw_below_drewN | apply below_drew1 | refine below_set ?_ GE138.out | refine below_set ?_ GE139.out) | exact HB.out)) hb); clear BK138; clear BK139; clear HB; have BK138 := n0_; have BK139 := n1_; have HB := n2_; clear n0_ n1_ n2_; (try clear hb); (try clear hb2); (try clear hk); (try clear hi)))
                      go_roundg kj5
                      case measure => have := HK1.out; have := HJ2.out; have := HJ5.out; omega
                      case rel => exact ⟨(wrap64 (x5_1 + 1)), (by first | rfl | (simp; done) | (simp [*]; done) | (simp [bne_nil_]; done)), H', ⟨by have := HK1.out; have := HJ2.out; have := HJ5.out; omega⟩, ⟨by repeat (first | (with_reducible first | exact HB.out | apply below_alloc | apply pw_below_drewN | apply below_drew1 | refine below_set ?_ GE138.out | refine below_set ?_ GE139.out) | exact HB.out)⟩⟩
                    · rw [if_neg c16] at H
                      have c16b0 : (t142 == 0) = false := beq_eq_false_iff_ne.mpr c16
                      have c16b1 : (t142 != 0) = true := bne_iff_ne.mpr c16
                      obtain rfl := Option.some.inj H
                      have p141 : 0 ≤ (x5_1 : Int) := of_decide_eq_true (by first | (with_reducible assumption) | assumption)
                      have q141 : x5_1 < (l1.length : Int) := of_decide_eq_true (by first | (with_reducible assumption) | assumption)
                      obtain ⟨ad141, e141, hx141_0, hx141_1⟩ := at_T28 HR1.out x5_1 p141 q141
                      cases e141
                      replace hx141_0 := (HB.out.cell (World.block_lt_of_cell? w _ hx141_0)).trans hx141_0
                      replace hx141_1 := (HB.out.cell (World.block_lt_of_cell? w _ hx141_1)).trans hx141_1
                      replace p141 := eq_true p141
                      replace q141 := eq_true q141
                      have hnb21 := NB139_138.out
                      have hnc21 := NB138_139.out
                      have hcz22_0 : wc.cell? ⟨gb139, 0, none⟩ = some (.bool false) := (blk_cell BK139.out 0).trans rfl
                      have hcz22_1 : wc.cell? ⟨gb139, 1, none⟩ = some (.string (⟨#[]⟩ : ByteArray)) := (blk_cell BK139.out 1).trans rfl
                      have hfz22_0 := blk_frozen BK139.out 0
                      have hfz22_1 := blk_frozen BK139.out 1
                      have hcz23_0 : wc.cell? ⟨gb138, 0, none⟩ = some (.bool x139000_5) := (blk_cell BK138.out 0).trans rfl
                      have hcz23_1 : wc.cell? ⟨gb138, 1, none⟩ = some (.string x139001_5) := (blk_cell BK138.out 1).trans rfl
                      have hfz23_0 := blk_frozen BK138.out 0
                      have hfz23_1 := blk_frozen BK138.out 1
                      go_wp2_with (first | ((with_reducible refine gate_callee (f := 16) rfl ?_); refine goesL_ (some 39) rfl rfl Tryd.func16 (by kernel_rfl) rfl #[.agg #[.bool x139000_5, .string x139001_5], .agg #[.bool ((rd_T28 l1 x5_1).f0), .string ((rd_T28 l1 x5_1).f1)]] rfl (by (try simp only [List.map_toArray, List.map_cons, List.map_nil]); first | done | rfl | (simp only [List.length_drop, List.length_take]; rfl)) ?_; (with_reducible refine (spec_intOrder.calls kj5 x139000_5 x139001_5 ((rd_T28 l1 x5_1).f0) ((rd_T28 l1 x5_1).f1) t142 _ A15.out).mono ?_); rintro e w24 ⟨rfl, hb⟩; refine ⟨_, rfl, ?_⟩; have n0_ := Aside0.mk (blk_below (g := gb138) (o := .cells #[.bool x139000_5, .string x139001_5] 28 (0, 0)) (by (with_reducible repeat (first | refine blk_drewN ?_ _ | refine blk_drew ?_ | refine blk_alloc ?_ _)); refine blk_far ?_ NB138_139.out _; (with_reducible repeat (first | refine blk_drewN ?_ _ | refine blk_drew ?_ | refine blk_alloc ?_ _)); refine blk_far ?_ NB138_139.out _; (with_reducible repeat (first | refine blk_drewN ?_ _ | refine blk_drew ?_ | refine blk_alloc ?_ _)); exact BK138.out) hb); have n1_ := Aside0.mk (blk_below (g := gb139) (o := .cells #[.bool ((rd_T28 l1 x5_1).f0), .string ((rd_T28 l1 x5_1).f1)] 28 (0, 0)) (by (with_reducible repeat (first | refine blk_drewN ?_ _ | refine blk_drew ?_ | refine blk_alloc ?_ _)); refine blk_put (cs := #[.bool ((rd_T28 l1 x5_1).f0), .string (⟨#[]⟩ : ByteArray)]) ?_ 1 _ rfl; (with_reducible repeat (first | refine blk_drewN ?_ _ | refine blk_drew ?_ | refine blk_alloc ?_ _)); refine blk_put (cs := #[.bool false, .string (⟨#[]⟩ : ByteArray)]) ?_ 0 _ rfl; (with_reducible repeat (first | refine blk_drewN ?_ _ | refine blk_drew ?_ | refine blk_alloc ?_ _)); exact BK139.out) hb); have n2_ := Aside0.mk (below_step (by repeat (first | (with_reducible first | exact HB.out | apply below_alloc | apply pw_below_drewN | apply below_drew1 | refine below_set ?_ GE138.out | refine below_set ?_ GE139.out) | exact HB.out)) hb); clear BK138; clear BK139; clear HB; have BK138 := n0_; have BK139 := n1_; have HB := n2_; clear n0_ n1_ n2_; (try clear hb); (try clear hb2); (try clear hk); (try clear hi)))
                      go_ret
                      exact ⟨by first | rfl | (simp [errW_none, errW_some] <;> rfl) | (simp [*, errW_none, errW_some] <;> rfl) | (simp [bne_nil_]; done), by repeat (first | (with_reducible first | exact HB.out | apply below_alloc | apply pw_below_drewN | apply below_drew1 | refine below_set ?_ GE138.out | refine below_set ?_ GE139.out) | exact HB.out)⟩
                  · rw [if_neg c14] at H
                    exact absurd H (by simp)
                · rw [if_neg c13] at H
                  have c13b0 : decide (x5_1 < (l1.length : Int)) = false := decide_eq_false c13
                  clear c13
                  replace H := Option.bind_eq_some_iff.mp H
                  obtain ⟨t143, A250, H⟩ := H
                  replace H : (if t143 = 0 then (spec_CompareNumbers.l0 kj5 l0 l1 (wrap64 (x5_1 + 1))) else (some t143)) = some r := H
                  have A25 := Aside0.mk A250
                  clear A250
                  by_cases c26 : t143 = 0
                  · rw [if_pos c26] at H
                    have c26b0 : (t143 == 0) = true := beq_iff_eq.mpr c26
                    have c26b1 : (t143 != 0) = false := bne_eq_false_iff_eq.mpr c26
                    clear c26
                    have H' := Aside0.mk H
                    clear H
                    have hnb27 := NB138_139.out
                    have hnc27 := NB139_138.out
                    have hcz28_0 : wc.cell? ⟨gb138, 0, none⟩ = some (.bool x139000_5) := (blk_cell BK138.out 0).trans rfl
                    have hcz28_1 : wc.cell? ⟨gb138, 1, none⟩ = some (.string x139001_5) := (blk_cell BK138.out 1).trans rfl
                    have hfz28_0 := blk_frozen BK138.out 0
                    have hfz28_1 := blk_frozen BK138.out 1
                    have hcz29_0 : wc.cell? ⟨gb139, 0, none⟩ = some (.bool false) := (blk_cell BK139.out 0).trans rfl
                    have hcz29_1 : wc.cell? ⟨gb139, 1, none⟩ = some (.string (⟨#[]⟩ : ByteArray)) := (blk_cell BK139.out 1).trans rfl
                    have hfz29_0 := blk_frozen BK139.out 0
                    have hfz29_1 := blk_frozen BK139.out 1
                    go_wp2_with (first | ((with_reducible refine gate_callee (f := 16) rfl ?_); refine goesL_ (some 39) rfl rfl Tryd.func16 (by kernel_rfl) rfl #[.agg #[.bool x139000_5, .string x139001_5], .agg #[.bool false, .string (⟨#[]⟩ : ByteArray)]] rfl (by (try simp only [List.map_toArray, List.map_cons, List.map_nil]); first | done | rfl | (simp only [List.length_drop, List.length_take]; rfl)) ?_; (with_reducible refine (spec_intOrder.calls kj5 x139000_5 x139001_5 false (⟨#[]⟩ : ByteArray) t143 _ A25.out).mono ?_); rintro e w30 ⟨rfl, hb⟩; refine ⟨_, rfl, ?_⟩; have n0_ := Aside0.mk (blk_below (g := gb138) (o := .cells #[.bool x139000_5, .string x139001_5] 28 (0, 0)) (by (with_reducible repeat (first | refine blk_drewN ?_ _ | refine blk_drew ?_ | refine blk_alloc ?_ _)); exact BK138.out) hb); have n1_ := Aside0.mk (blk_below (g := gb139) (o := .cells #[.bool false, .string (⟨#[]⟩ : ByteArray)] 28 (0, 0)) (by (with_reducible repeat (first | refine blk_drewN ?_ _ | refine blk_drew ?_ | refine blk_alloc ?_ _)); exact BK139.out) hb); have n2_ := Aside0.mk (below_step (by repeat (first | (with_reducible first | exact HB.out | apply below_alloc | apply pw_below_drewN | apply below_drew1 | refine below_set ?_ GE138.out | refine below_set ?_ GE139.out) | exact HB.out)) hb); clear BK138; clear BK139; clear HB; have BK138 := n0_; have BK139 := n1_; have HB := n2_; clear n0_ n1_ n2_; (try clear hb); (try clear hb2); (try clear hk); (try clear hi)))
                    go_roundg kj5
                    case measure => have := HK1.out; have := HJ2.out; have := HJ5.out; omega
                    case rel => exact ⟨(wrap64 (x5_1 + 1)), (by first | rfl | (simp; done) | (simp [*]; done) | (simp [bne_nil_]; done)), H', ⟨by have := HK1.out; have := HJ2.out; have := HJ5.out; omega⟩, ⟨by repeat (first | (with_reducible first | exact HB.out | apply below_alloc | apply pw_below_drewN | apply below_drew1 | refine below_set ?_ GE138.out | refine below_set ?_ GE139.out) | exact HB.out)⟩⟩
                  · rw [if_neg c26] at H
                    have c26b0 : (t143 == 0) = false := beq_eq_false_iff_ne.mpr c26
                    have c26b1 : (t143 != 0) = true := bne_iff_ne.mpr c26
                    obtain rfl := Option.some.inj H
                    have hnb31 := NB138_139.out
                    have hnc31 := NB139_138.out
                    have hcz32_0 : wc.cell? ⟨gb138, 0, none⟩ = some (.bool x139000_5) := (blk_cell BK138.out 0).trans rfl
                    have hcz32_1 : wc.cell? ⟨gb138, 1, none⟩ = some (.string x139001_5) := (blk_cell BK138.out 1).trans rfl
                    have hfz32_0 := blk_frozen BK138.out 0
                    have hfz32_1 := blk_frozen BK138.out 1
                    have hcz33_0 : wc.cell? ⟨gb139, 0, none⟩ = some (.bool false) := (blk_cell BK139.out 0).trans rfl
                    have hcz33_1 : wc.cell? ⟨gb139, 1, none⟩ = some (.string (⟨#[]⟩ : ByteArray)) := (blk_cell BK139.out 1).trans rfl
                    have hfz33_0 := blk_frozen BK139.out 0
                    have hfz33_1 := blk_frozen BK139.out 1
                    go_wp2_with (first | ((with_reducible refine gate_callee (f := 16) rfl ?_); refine goesL_ (some 39) rfl rfl Tryd.func16 (by kernel_rfl) rfl #[.agg #[.bool x139000_5, .string x139001_5], .agg #[.bool false, .string (⟨#[]⟩ : ByteArray)]] rfl (by (try simp only [List.map_toArray, List.map_cons, List.map_nil]); first | done | rfl | (simp only [List.length_drop, List.length_take]; rfl)) ?_; (with_reducible refine (spec_intOrder.calls kj5 x139000_5 x139001_5 false (⟨#[]⟩ : ByteArray) t143 _ A25.out).mono ?_); rintro e w34 ⟨rfl, hb⟩; refine ⟨_, rfl, ?_⟩; have n0_ := Aside0.mk (blk_below (g := gb138) (o := .cells #[.bool x139000_5, .string x139001_5] 28 (0, 0)) (by (with_reducible repeat (first | refine blk_drewN ?_ _ | refine blk_drew ?_ | refine blk_alloc ?_ _)); exact BK138.out) hb); have n1_ := Aside0.mk (blk_below (g := gb139) (o := .cells #[.bool false, .string (⟨#[]⟩ : ByteArray)] 28 (0, 0)) (by (with_reducible repeat (first | refine blk_drewN ?_ _ | refine blk_drew ?_ | refine blk_alloc ?_ _)); exact BK139.out) hb); have n2_ := Aside0.mk (below_step (by repeat (first | (with_reducible first | exact HB.out | apply below_alloc | apply pw_below_drewN | apply below_drew1 | refine below_set ?_ GE138.out | refine below_set ?_ GE139.out) | exact HB.out)) hb); clear BK138; clear BK139; clear HB; have BK138 := n0_; have BK139 := n1_; have HB := n2_; clear n0_ n1_ n2_; (try clear hb); (try clear hb2); (try clear hk); (try clear hi)))
                    go_ret
                    exact ⟨by first | rfl | (simp [errW_none, errW_some] <;> rfl) | (simp [*, errW_none, errW_some] <;> rfl) | (simp [bne_nil_]; done), by repeat (first | (with_reducible first | exact HB.out | apply below_alloc | apply pw_below_drewN | apply below_drew1 | refine below_set ?_ GE138.out | refine below_set ?_ GE139.out) | exact HB.out)⟩
          · replace c5 := Bool.eq_false_iff.mpr c5
            subst c5
            have H1 : (some 0) = some r := by rw [if_neg (show ¬ (false = true) by decide)] at H; exact H
            clear H
            have H := H1
            clear H1
            obtain rfl := Option.some.inj H
            go_wp2
            go_ret
            exact ⟨by first | rfl | (simp [errW_none, errW_some] <;> rfl) | (simp [*, errW_none, errW_some] <;> rfl) | (simp [bne_nil_]; done), by repeat (first | (with_reducible first | exact HB.out | apply below_alloc | apply pw_below_drewN | apply below_drew1) | exact HB.out)⟩

/-! ### laws_first: function 10 -/
def laws_first.l0 : Nat → List Int → Int → Int → Option (Int)
  | 0, _, _, _ => none
  | k + 1, x5, x6, x7 => if x7 < x6 then (if 0 ≤ x7 then (if x7 < (x5.length : Int) then (if (rd x5 x7) = 0 then (laws_first.l0 k x5 x6 (wrap64 (x7 + 1))) else (some (rd x5 x7))) else (none)) else (none)) else (some 0)
def laws_first.f (k : Nat) (l0 : List Int) : Option (Int) := laws_first.l0 k l0 (l0.length : Int) 0
theorem laws_first.mono_l : ∀ k, (∀ y0 y1 y2, LeO (laws_first.l0 k y0 y1 y2) (laws_first.l0 (k + 1) y0 y1 y2))
  | 0 => fun _ _ _ r h => by simp [laws_first.l0] at h
  | k + 1 => by
    have ih0 := laws_first.mono_l k
    · intro y0 y1 y2
      unfold laws_first.l0
      repeat' first
      | (with_reducible exact ih0 _ _ _)
      | (with_reducible exact LeO.refl _)
      | (with_reducible exact LeO.none _)
      | (with_reducible refine LeO.ite ?_ ?_)
      | (with_reducible refine LeO.bind ?_ (fun _ => ?_))
      | exact ih0 _ _ _
      | exact LeO.none _
      | refine LeO.ite ?_ ?_
      | refine LeO.bind ?_ (fun _ => ?_)
theorem laws_first.mono : ∀ a0 k, LeO (laws_first.f k a0) (laws_first.f (k + 1) a0) := by
  intro a0 k
  have ih0 := laws_first.mono_l k
  unfold laws_first.f
  repeat' first
      | (with_reducible exact ih0 _ _ _)
      | (with_reducible exact LeO.refl _)
      | (with_reducible exact LeO.none _)
      | (with_reducible refine LeO.ite ?_ ?_)
      | (with_reducible refine LeO.bind ?_ (fun _ => ?_))
      | exact ih0 _ _ _
      | exact LeO.none _
      | refine LeO.ite ?_ ?_
      | refine LeO.bind ?_ (fun _ => ?_)
set_option maxHeartbeats 8000000 in
set_option maxRecDepth 100000 in
theorem laws_first.calls (k : Nat) (A0 : Option Addr) (c0 : Nat) (l0 : List Int) (r : Int) (w : World) (hr0 : Kd.C (Kd.int .i64) w A0 l0.length l0) (hc0 : l0.length ≤ c0) (h : laws_first.f k l0 = some r) :
    Calls Tryd.prog 10 #[.slice A0 l0.length c0] w fun e w' => e = .returned (.int .i64 r) ∧ Drawn0 w w' := by
  have HR0 := Aside0.mk hr0
  have HC0 := Aside0.mk hc0
  clear hr0 hc0
  have H : (laws_first.l0 k l0 (l0.length : Int) 0) = some r := h
  clear h
  have H' := Aside0.mk H
  clear H
  go_enter Tryd.func10, Tryd.ntmps10
  go_wp2
  go_loopg [7] k (fun kq v7 w' => ∃ (x7_1 : Int), v7 = .int .i64 x7_1 ∧ Aside0 (laws_first.l0 kq l0 (l0.length : Int) x7_1 = some r) ∧ Aside0 (kq ≤ k) ∧ Drawn0 w w')
  case atStart => exact ⟨(0), (by first | rfl | (simp; done) | (simp [*]; done) | (simp [bne_nil_]; done)), H', ⟨Nat.le_refl _⟩, by repeat (first | exact Drawn0.refl _ | apply Drawn0.step)⟩
  case round =>
    clear H'
    try clear c1
    obtain ⟨x7_1, rfl, HA, HK1, ⟨m1, rfl⟩⟩ := hrel
    cases gk with
    | zero => exact absurd HA.out (by simp [laws_first.l0])
    | succ k1 =>
      have H := HA.out
      clear HA
      simp only [laws_first.l0] at H
      by_cases c2 : x7_1 < (l0.length : Int)
      · rw [if_pos c2] at H
        have c2b0 : decide (x7_1 < (l0.length : Int)) = true := decide_eq_true c2
        clear c2
        by_cases c3 : 0 ≤ x7_1
        · rw [if_pos c3] at H
          have c3b0 : decide (0 ≤ x7_1) = true := decide_eq_true c3
          clear c3
          by_cases c4 : x7_1 < (l0.length : Int)
          · rw [if_pos c4] at H
            have c4b0 : decide (x7_1 < (l0.length : Int)) = true := decide_eq_true c4
            clear c4
            by_cases c5 : (rd l0 x7_1) = 0
            · rw [if_pos c5] at H
              have c5b0 : ((rd l0 x7_1) == 0) = true := beq_iff_eq.mpr c5
              have c5b1 : ((rd l0 x7_1) != 0) = false := bne_eq_false_iff_eq.mpr c5
              clear c5
              have H' := Aside0.mk H
              clear H
              have p144 : 0 ≤ (x7_1 : Int) := of_decide_eq_true (by first | (with_reducible assumption) | assumption)
              have q144 : x7_1 < (l0.length : Int) := of_decide_eq_true (by first | (with_reducible assumption) | assumption)
              obtain ⟨ad144, e144, hx144_0⟩ := Kd.at_int HR0.out x7_1 p144 q144
              cases e144
              replace p144 := eq_true p144
              replace q144 := eq_true q144
              go_wp2
              go_roundg k1
              case measure => have := HK1.out; omega
              case rel => exact ⟨(wrap64 (x7_1 + 1)), (by first | rfl | (simp; done) | (simp [*]; done) | (simp [bne_nil_]; done)), H', ⟨by have := HK1.out; omega⟩, by repeat (first | exact Drawn0.refl _ | apply Drawn0.step)⟩
            · rw [if_neg c5] at H
              have c5b0 : ((rd l0 x7_1) == 0) = false := beq_eq_false_iff_ne.mpr c5
              have c5b1 : ((rd l0 x7_1) != 0) = true := bne_iff_ne.mpr c5
              obtain rfl := Option.some.inj H
              have p144 : 0 ≤ (x7_1 : Int) := of_decide_eq_true (by first | (with_reducible assumption) | assumption)
              have q144 : x7_1 < (l0.length : Int) := of_decide_eq_true (by first | (with_reducible assumption) | assumption)
              obtain ⟨ad144, e144, hx144_0⟩ := Kd.at_int HR0.out x7_1 p144 q144
              cases e144
              replace p144 := eq_true p144
              replace q144 := eq_true q144
              go_wp2
              go_ret
              exact ⟨by first | rfl | (simp; done) | (simp [*]; done) | (simp [bne_nil_]; done), by repeat (first | exact Drawn0.refl _ | apply Drawn0.step)⟩
          · rw [if_neg c4] at H
            exact absurd H (by simp)
        · rw [if_neg c3] at H
          exact absurd H (by simp)
      · rw [if_neg c2] at H
        have c2b0 : decide (x7_1 < (l0.length : Int)) = false := decide_eq_false c2
        clear c2
        obtain rfl := Option.some.inj H
        go_wp2
        go_ret
        exact ⟨by first | rfl | (simp; done) | (simp [*]; done) | (simp [bne_nil_]; done), by repeat (first | exact Drawn0.refl _ | apply Drawn0.step)⟩

/-! ### laws_sign: function 11 -/
def laws_sign.f (a0 : Int) : Option (Int) := some (mx (-1) (mn 1 a0))
set_option maxHeartbeats 8000000 in
set_option maxRecDepth 100000 in
theorem laws_sign.calls (a0 : Int) (r : Int) (w : World) (h : laws_sign.f a0 = some r) :
    Calls Tryd.prog 11 #[.int .i64 a0] w fun e w' => e = .returned (.int .i64 r) ∧ Below w.heap.size w w' := by
  have HB := Aside0.mk (Below.refl w.heap.size w)
  have H : (some (mx (-1) (mn 1 a0))) = some r := h
  clear h
  obtain ⟨ji2, hji2⟩ : ∃ j_ : Int, (mn 1 a0) = j_ := ⟨_, rfl⟩
  replace H : (some (mx (-1) (ji2))) = some r := by first | (rw [hji2] at H; exact H) | (simp only [hji2] at H ⊢; exact H)
  (try (have hji2h : ji2 ≤ 1 := by (rw [← hji2]; unfold mn; (repeat' split) <;> omega)))
  (try (have hji2g : ji2 ≤ 64 := by omega))
  have hji2_ : (if a0 < 1 then a0 else 1) = ji2 := hji2
  obtain ⟨ji3, hji3⟩ : ∃ j_ : Int, (mx (-1) (ji2)) = j_ := ⟨_, rfl⟩
  replace H : (some ji3) = some r := by first | (rw [hji3] at H; exact H) | (simp only [hji3] at H ⊢; exact H)
  have hji3_ : (if (-1) < (ji2) then (ji2) else (-1)) = ji3 := hji3
  obtain rfl := Option.some.inj H
  go_enter Tryd.func11, Tryd.ntmps11
  go_wp2
  go_ret
  exact ⟨by first | rfl | (simp [errW_none, errW_some] <;> rfl) | (simp only [← hji2, ← hji3]; first | rfl | (simp [errW_none, errW_some] <;> rfl)) | (simp [*, errW_none, errW_some] <;> rfl) | (simp [bne_nil_]; done), by repeat (first | (with_reducible first | exact HB.out | apply below_alloc | apply pw_below_drewN | apply below_drew1) | exact HB.out)⟩

end Go.Proofs.YtmbgkdklgdkikaaDoor.QP
