-- Written by a working copy of the kit's print program, turned at a few places by wip/tool/mkprint.py. Lean checks it.
import Derived.Test.YtfmndbmlpfgbnaaGreatDoorQYx0
import Derived.Test.YtfmndbmlpfgbnaaGreatDoorQYx1
namespace Go.Proofs.YtfmndbmlpfgbnaaGreatDoor.QY
open Go.RowKit Go.Proofs.YtfmndbmlpfgbnaaGreatDoorW.PrintWords Go.Proofs.YtfmndbmlpfgbnaaGreatDoorW.PrintLast Go.Proofs.YtfmndbmlpfgbnaaGreatDoorW.PrintMore
attribute [local go_sem] max2_int min2_int max_two min_two max_three min_three max_four min_four   -- for this text's walks alone
set_option linter.unusedVariables false
set_option linter.unusedSimpArgs false

attribute [local go_sem high] eqA23
/-! ### spec_numTidy: function 31 -/
def spec_numTidy.l0 : Nat → Bool → ByteArray → Option (Bool × ByteArray)
  | 0, _, _ => none
  | k + 1, x102000, x102001 => if (x102001.size : Int) > 0 then (if 0 < (x102001.size : Int) then (if (bt x102001 0) = 0 then (if 1 ≤ (x102001.size : Int) then (spec_numTidy.l0 k x102000 (x102001.extract 1 x102001.size)) else (none)) else (if x102000 = true then (some ((x102001.toList != ([] : List UInt8)), x102001)) else (some (false, x102001)))) else (none)) else (if x102000 = true then (some ((x102001.toList != ([] : List UInt8)), x102001)) else (some (false, x102001)))
def spec_numTidy.f (k : Nat) (a0_0 : Bool) (a0_1 : ByteArray) : Option (Bool × ByteArray) := spec_numTidy.l0 k a0_0 a0_1
theorem spec_numTidy.mono_l : ∀ k, (∀ y0 y1, LeO (spec_numTidy.l0 k y0 y1) (spec_numTidy.l0 (k + 1) y0 y1))
  | 0 => fun _ _ r h => by simp [spec_numTidy.l0] at h
  | k + 1 => by
    have ih0 := spec_numTidy.mono_l k
    · intro y0 y1
      unfold spec_numTidy.l0
      repeat' first
      | (with_reducible exact ih0 _ _)
      | (with_reducible exact LeO.refl _)
      | (with_reducible exact LeO.none _)
      | (with_reducible refine LeO.ite ?_ ?_)
      | (with_reducible refine LeO.bind ?_ (fun _ => ?_))
      | exact ih0 _ _
      | exact LeO.none _
      | refine LeO.ite ?_ ?_
      | refine LeO.bind ?_ (fun _ => ?_)
theorem spec_numTidy.mono : ∀ a0 a1 k, LeO (spec_numTidy.f k a0 a1) (spec_numTidy.f (k + 1) a0 a1) := by
  intro a0 a1 k
  have ih0 := spec_numTidy.mono_l k
  unfold spec_numTidy.f
  repeat' first
      | (with_reducible exact ih0 _ _)
      | (with_reducible exact LeO.refl _)
      | (with_reducible exact LeO.none _)
      | (with_reducible refine LeO.ite ?_ ?_)
      | (with_reducible refine LeO.bind ?_ (fun _ => ?_))
      | exact ih0 _ _
      | exact LeO.none _
      | refine LeO.ite ?_ ?_
      | refine LeO.bind ?_ (fun _ => ?_)
set_option maxHeartbeats 8000000 in
set_option maxRecDepth 100000 in
theorem spec_numTidy.calls (k : Nat) (a0_0 : Bool) (a0_1 : ByteArray) (r1 : Bool) (r2 : ByteArray) (w : World) (h : spec_numTidy.f k a0_0 a0_1 = some (r1, r2)) :
    Calls Tryz.prog 31 #[.agg #[.bool a0_0, .string a0_1]] w fun e w' => e = .returned (.agg #[.bool r1, .string r2]) ∧ Below w.heap.size w w' := by
  have hu23 := Tryz.underlying23
  have HB := Aside0.mk (Below.refl w.heap.size w)
  have H : (spec_numTidy.l0 k a0_0 a0_1) = some (r1, r2) := h
  clear h
  have H' := Aside0.mk H
  clear H
  go_enter Tryz.func31, Tryz.ntmps31
  go_wp2_with (first | ((with_reducible refine gate_dst (N := 1) rfl ?_); refine box_event ?hg (N := 1) ?hd (cs := #[.bool a0_0, .string a0_1]) (t := 23) ?hr ?_; (case hd => rfl); (case hg => rfl); (case hr => first | (go_simp; done) | (go_simp; rfl)); intro gb101 hg w2 hbox hb; have n0_ := Aside0.mk (below_step (by repeat (first | (with_reducible first | exact HB.out | apply below_alloc | apply pw_below_drewN | apply below_drew1) | exact HB.out)) hb); have n1_ := Aside0.mk (hbox); have n2_ := Aside0.mk ((by rw [hg]; exact (below_size (by repeat (first | (with_reducible first | exact HB.out | apply below_alloc | apply pw_below_drewN | apply below_drew1) | exact HB.out))) : w.heap.size ≤ gb101)); have n3_ := Aside0.mk ((by rw [hg]; exact (below_size (by repeat (first | (with_reducible first | exact HB.out | apply below_alloc | apply pw_below_drewN | apply below_drew1) | exact HB.out))) : w.heap.size ≤ gb101)); clear HB; have HB := n0_; have BK101 := n1_; have GW101 := n2_; have GE101 := n3_; clear n0_ n1_ n2_ n3_; clear hb hbox hg) | ((with_reducible refine gate_dst (N := 2) rfl ?_); refine box_event ?hg (N := 2) ?hd (cs := #[.bool false, .string (⟨#[]⟩ : ByteArray)]) (t := 23) ?hr ?_; (case hd => rfl); (case hg => rfl); (case hr => first | (go_simp; done) | (go_simp; rfl)); intro gb102 hg w3 hbox hb; have n0_ := Aside0.mk (blk_below (g := gb101) (o := .cells #[.bool a0_0, .string a0_1] 23 (0, 0)) (by (with_reducible repeat (first | refine blk_drewN ?_ _ | refine blk_drew ?_ | refine blk_alloc ?_ _)); exact BK101.out) hb); have n1_ := Aside0.mk (below_step (by repeat (first | (with_reducible first | exact HB.out | apply below_alloc | apply pw_below_drewN | apply below_drew1 | refine below_set ?_ GE101.out) | exact HB.out)) hb); have n2_ := Aside0.mk (hbox); have n3_ := Aside0.mk ((by rw [hg]; exact (below_size (by repeat (first | (with_reducible first | exact HB.out | apply below_alloc | apply pw_below_drewN | apply below_drew1 | refine below_set ?_ GE101.out) | exact HB.out))) : w.heap.size ≤ gb102)); have n4_ := Aside0.mk ((by rw [hg]; exact (below_size (by repeat (first | (with_reducible first | exact HB.out | apply below_alloc | apply pw_below_drewN | apply below_drew1 | refine below_set ?_ GE101.out) | exact HB.out))) : w.heap.size ≤ gb102)); have n5_ := Aside0.mk ((by rw [hg]; exact Nat.ne_of_lt (blk_lt (g := gb101) (o := .cells #[.bool a0_0, .string a0_1] 23 (0, 0)) (by (with_reducible repeat (first | refine blk_drewN ?_ _ | refine blk_drew ?_ | refine blk_alloc ?_ _)); exact BK101.out)) : gb101 ≠ gb102)); have n6_ := Aside0.mk ((by rw [hg]; exact Nat.ne_of_gt (blk_lt (g := gb101) (o := .cells #[.bool a0_0, .string a0_1] 23 (0, 0)) (by (with_reducible repeat (first | refine blk_drewN ?_ _ | refine blk_drew ?_ | refine blk_alloc ?_ _)); exact BK101.out)) : gb102 ≠ gb101)); clear BK101; clear HB; have BK101 := n0_; have HB := n1_; have BK102 := n2_; have GW102 := n3_; have GE102 := n4_; have NB101_102 := n5_; have NB102_101 := n6_; clear n0_ n1_ n2_ n3_ n4_ n5_ n6_; clear hb hbox hg))
  try go_simp
  go_loopg [] k (fun kq w' => ∃ (x102001_1 : ByteArray), Aside0 (spec_numTidy.l0 kq a0_0 x102001_1 = some (r1, r2)) ∧ Aside0 (kq ≤ k) ∧ Aside0 (w'.heap[gb101]? = some (.cells #[.bool a0_0, .string x102001_1] 23 (0, 0))) ∧ Aside0 (w'.heap[gb102]? = some (.cells #[.bool false, .string (⟨#[]⟩ : ByteArray)] 23 (0, 0))) ∧ Aside0 (Below w.heap.size w w'))
  case atStart => exact ⟨(a0_1), H', ⟨Nat.le_refl _⟩, ⟨by (with_reducible repeat (first | refine blk_drewN ?_ _ | refine blk_drew ?_ | refine blk_alloc ?_ _)); exact BK101.out⟩, ⟨by (with_reducible repeat (first | refine blk_drewN ?_ _ | refine blk_drew ?_ | refine blk_alloc ?_ _)); exact BK102.out⟩, ⟨by repeat (first | (with_reducible first | exact HB.out | apply below_alloc | apply pw_below_drewN | apply below_drew1 | refine below_set ?_ GE101.out | refine below_set ?_ GE102.out) | exact HB.out)⟩⟩
  case round =>
    clear H'
    try clear p2
    try clear c3
    obtain ⟨x102001_1, HA, HK1, BK101, BK102, HB⟩ := hrel
    cases gk with
    | zero => exact absurd HA.out (by simp [spec_numTidy.l0])
    | succ k1 =>
      have H := HA.out
      clear HA
      simp only [spec_numTidy.l0] at H
      by_cases c4 : (x102001_1.size : Int) > 0
      · rw [if_pos c4] at H
        have c4b0 : decide (0 < (x102001_1.size : Int)) = true := decide_eq_true c4
        have c4b1 : decide (0 < x102001_1.size) = true := decide_eq_true (by omega)
        clear c4
        by_cases c5 : 0 < (x102001_1.size : Int)
        · rw [if_pos c5] at H
          have c5b0 : decide (0 < (x102001_1.size : Int)) = true := decide_eq_true c5
          have c5b1 : decide (0 < x102001_1.size) = true := decide_eq_true (by omega)
          clear c5
          by_cases c7 : (bt x102001_1 0) = 0
          · rw [if_pos c7] at H
            have c7b0 : ((bt x102001_1 0) == 0) = true := beq_iff_eq.mpr c7
            have c7b1 : ((bt x102001_1 0) != 0) = false := bne_eq_false_iff_eq.mpr c7
            clear c7
            by_cases c8 : 1 ≤ (x102001_1.size : Int)
            · rw [if_pos c8] at H
              have c8b0 := eq_true c8
              have c8b1 : decide (1 ≤ (x102001_1.size : Int)) = true := decide_eq_true c8
              clear c8
              have H' := Aside0.mk H
              clear H
              have hnb9 := NB101_102.out
              have hnc9 := NB102_101.out
              have hcz10_0 : wr.cell? ⟨gb101, 0, none⟩ = some (.bool a0_0) := (blk_cell BK101.out 0).trans rfl
              have hcz10_1 : wr.cell? ⟨gb101, 1, none⟩ = some (.string x102001_1) := (blk_cell BK101.out 1).trans rfl
              have hfz10_0 := blk_frozen BK101.out 0
              have hfz10_1 := blk_frozen BK101.out 1
              have p6 : 0 ≤ (0 : Int) := (by omega)
              have q6 : 0 < x102001_1.size := (by have : (0 : Int) < (x102001_1.size : Int) := of_decide_eq_true (by first | (with_reducible assumption) | assumption); omega)
              have hx6 : ∀ h : 0 < x102001_1.size, ((x102001_1[0]'h).toNat : Int) = bt x102001_1 0 := bt_at x102001_1 0
              clear p6
              have qi6 : (0 < (x102001_1.size : Int)) = True := eq_true (of_decide_eq_true (by first | (with_reducible assumption) | assumption))
              replace q6 := eq_true q6
              go_wp2
              go_roundg k1
              case measure => have := HK1.out; omega
              case rel => exact ⟨(x102001_1.extract 1 x102001_1.size), H', ⟨by have := HK1.out; omega⟩, ⟨by (with_reducible repeat (first | refine blk_drewN ?_ _ | refine blk_drew ?_ | refine blk_alloc ?_ _)); refine blk_put (cs := #[.bool a0_0, .string x102001_1]) ?_ 1 _ rfl; (with_reducible repeat (first | refine blk_drewN ?_ _ | refine blk_drew ?_ | refine blk_alloc ?_ _)); exact BK101.out⟩, ⟨by (with_reducible repeat (first | refine blk_drewN ?_ _ | refine blk_drew ?_ | refine blk_alloc ?_ _)); refine blk_far ?_ NB102_101.out _; (with_reducible repeat (first | refine blk_drewN ?_ _ | refine blk_drew ?_ | refine blk_alloc ?_ _)); exact BK102.out⟩, ⟨by repeat (first | (with_reducible first | exact HB.out | apply below_alloc | apply pw_below_drewN | apply below_drew1 | refine below_set ?_ GE101.out | refine below_set ?_ GE102.out) | exact HB.out)⟩⟩
            · rw [if_neg c8] at H
              exact absurd H (by simp)
          · rw [if_neg c7] at H
            have c7b0 : ((bt x102001_1 0) == 0) = false := beq_eq_false_iff_ne.mpr c7
            have c7b1 : ((bt x102001_1 0) != 0) = true := bne_iff_ne.mpr c7
            by_cases c11 : a0_0 = true
            · subst c11
              have H1 : (some ((x102001_1.toList != ([] : List UInt8)), x102001_1)) = some (r1, r2) := by rw [if_pos rfl] at H; exact H
              clear H
              have H := H1
              clear H1
              simp only [Option.some.injEq, Prod.mk.injEq] at H
              obtain ⟨rfl, rfl⟩ := H
              have hnb12 := NB101_102.out
              have hnc12 := NB102_101.out
              have hcz13_0 : wr.cell? ⟨gb101, 0, none⟩ = some (.bool true) := (blk_cell BK101.out 0).trans rfl
              have hcz13_1 : wr.cell? ⟨gb101, 1, none⟩ = some (.string x102001_1) := (blk_cell BK101.out 1).trans rfl
              have hfz13_0 := blk_frozen BK101.out 0
              have hfz13_1 := blk_frozen BK101.out 1
              have p6 : 0 ≤ (0 : Int) := (by omega)
              have q6 : 0 < x102001_1.size := (by have : (0 : Int) < (x102001_1.size : Int) := of_decide_eq_true (by first | (with_reducible assumption) | assumption); omega)
              have hx6 : ∀ h : 0 < x102001_1.size, ((x102001_1[0]'h).toNat : Int) = bt x102001_1 0 := bt_at x102001_1 0
              clear p6
              have qi6 : (0 < (x102001_1.size : Int)) = True := eq_true (of_decide_eq_true (by first | (with_reducible assumption) | assumption))
              replace q6 := eq_true q6
              have hcz14_0 : wr.cell? ⟨gb102, 0, none⟩ = some (.bool false) := (blk_cell BK102.out 0).trans rfl
              have hcz14_1 : wr.cell? ⟨gb102, 1, none⟩ = some (.string (⟨#[]⟩ : ByteArray)) := (blk_cell BK102.out 1).trans rfl
              have hfz14_0 := blk_frozen BK102.out 0
              have hfz14_1 := blk_frozen BK102.out 1
              go_wp2
              refine bodyPost_ret (results_cell_row rfl _ _ gb102 23 #[.bool (x102001_1.toList != ([] : List UInt8)), .string x102001_1] (0, 0) _ rfl (by (with_reducible repeat (first | refine blk_drewN ?_ _ | refine blk_drew ?_ | refine blk_alloc ?_ _)); refine blk_put (cs := #[.bool (x102001_1.toList != ([] : List UInt8)), .string (⟨#[]⟩ : ByteArray)]) ?_ 1 _ (by first | rfl | simp [bne_nil_]); (with_reducible repeat (first | refine blk_drewN ?_ _ | refine blk_drew ?_ | refine blk_alloc ?_ _)); refine blk_put (cs := #[.bool false, .string (⟨#[]⟩ : ByteArray)]) ?_ 0 _ (by first | rfl | simp [bne_nil_]); (with_reducible repeat (first | refine blk_drewN ?_ _ | refine blk_drew ?_ | refine blk_alloc ?_ _)); refine blk_far ?_ NB102_101.out _; (with_reducible repeat (first | refine blk_drewN ?_ _ | refine blk_drew ?_ | refine blk_alloc ?_ _)); exact BK102.out) Tryz.underlying23 rfl (by kernel_rfl)) rfl ?_
              exact ⟨by first | rfl | (simp [errW_none, errW_some] <;> rfl) | (simp [*, errW_none, errW_some] <;> rfl) | (simp [bne_nil_]; done), by repeat (first | (with_reducible first | exact HB.out | apply below_alloc | apply pw_below_drewN | apply below_drew1 | refine below_set ?_ GE101.out | refine below_set ?_ GE102.out) | exact HB.out)⟩
            · replace c11 := Bool.eq_false_iff.mpr c11
              subst c11
              have H1 : (some (false, x102001_1)) = some (r1, r2) := by rw [if_neg (show ¬ (false = true) by decide)] at H; exact H
              clear H
              have H := H1
              clear H1
              simp only [Option.some.injEq, Prod.mk.injEq] at H
              obtain ⟨rfl, rfl⟩ := H
              have hnb15 := NB101_102.out
              have hnc15 := NB102_101.out
              have hcz16_0 : wr.cell? ⟨gb101, 0, none⟩ = some (.bool false) := (blk_cell BK101.out 0).trans rfl
              have hcz16_1 : wr.cell? ⟨gb101, 1, none⟩ = some (.string x102001_1) := (blk_cell BK101.out 1).trans rfl
              have hfz16_0 := blk_frozen BK101.out 0
              have hfz16_1 := blk_frozen BK101.out 1
              have p6 : 0 ≤ (0 : Int) := (by omega)
              have q6 : 0 < x102001_1.size := (by have : (0 : Int) < (x102001_1.size : Int) := of_decide_eq_true (by first | (with_reducible assumption) | assumption); omega)
              have hx6 : ∀ h : 0 < x102001_1.size, ((x102001_1[0]'h).toNat : Int) = bt x102001_1 0 := bt_at x102001_1 0
              clear p6
              have qi6 : (0 < (x102001_1.size : Int)) = True := eq_true (of_decide_eq_true (by first | (with_reducible assumption) | assumption))
              replace q6 := eq_true q6
              have hcz17_0 : wr.cell? ⟨gb102, 0, none⟩ = some (.bool false) := (blk_cell BK102.out 0).trans rfl
              have hcz17_1 : wr.cell? ⟨gb102, 1, none⟩ = some (.string (⟨#[]⟩ : ByteArray)) := (blk_cell BK102.out 1).trans rfl
              have hfz17_0 := blk_frozen BK102.out 0
              have hfz17_1 := blk_frozen BK102.out 1
              go_wp2
              refine bodyPost_ret (results_cell_row rfl _ _ gb102 23 #[.bool false, .string x102001_1] (0, 0) _ rfl (by (with_reducible repeat (first | refine blk_drewN ?_ _ | refine blk_drew ?_ | refine blk_alloc ?_ _)); refine blk_put (cs := #[.bool false, .string (⟨#[]⟩ : ByteArray)]) ?_ 1 _ rfl; (with_reducible repeat (first | refine blk_drewN ?_ _ | refine blk_drew ?_ | refine blk_alloc ?_ _)); refine blk_put (cs := #[.bool false, .string (⟨#[]⟩ : ByteArray)]) ?_ 0 _ rfl; (with_reducible repeat (first | refine blk_drewN ?_ _ | refine blk_drew ?_ | refine blk_alloc ?_ _)); refine blk_far ?_ NB102_101.out _; (with_reducible repeat (first | refine blk_drewN ?_ _ | refine blk_drew ?_ | refine blk_alloc ?_ _)); exact BK102.out) Tryz.underlying23 rfl (by kernel_rfl)) rfl ?_
              exact ⟨by first | rfl | (simp [errW_none, errW_some] <;> rfl) | (simp [*, errW_none, errW_some] <;> rfl) | (simp [bne_nil_]; done), by repeat (first | (with_reducible first | exact HB.out | apply below_alloc | apply pw_below_drewN | apply below_drew1 | refine below_set ?_ GE101.out | refine below_set ?_ GE102.out) | exact HB.out)⟩
        · rw [if_neg c5] at H
          exact absurd H (by simp)
      · rw [if_neg c4] at H
        have c4b0 : decide (0 < (x102001_1.size : Int)) = false := decide_eq_false c4
        have c4b1 : decide (0 < x102001_1.size) = false := decide_eq_false (by omega)
        clear c4
        by_cases c18 : a0_0 = true
        · subst c18
          have H1 : (some ((x102001_1.toList != ([] : List UInt8)), x102001_1)) = some (r1, r2) := by rw [if_pos rfl] at H; exact H
          clear H
          have H := H1
          clear H1
          simp only [Option.some.injEq, Prod.mk.injEq] at H
          obtain ⟨rfl, rfl⟩ := H
          have hnb19 := NB101_102.out
          have hnc19 := NB102_101.out
          have hcz20_0 : wr.cell? ⟨gb101, 0, none⟩ = some (.bool true) := (blk_cell BK101.out 0).trans rfl
          have hcz20_1 : wr.cell? ⟨gb101, 1, none⟩ = some (.string x102001_1) := (blk_cell BK101.out 1).trans rfl
          have hfz20_0 := blk_frozen BK101.out 0
          have hfz20_1 := blk_frozen BK101.out 1
          have hcz21_0 : wr.cell? ⟨gb102, 0, none⟩ = some (.bool false) := (blk_cell BK102.out 0).trans rfl
          have hcz21_1 : wr.cell? ⟨gb102, 1, none⟩ = some (.string (⟨#[]⟩ : ByteArray)) := (blk_cell BK102.out 1).trans rfl
          have hfz21_0 := blk_frozen BK102.out 0
          have hfz21_1 := blk_frozen BK102.out 1
          go_wp2
          refine bodyPost_ret (results_cell_row rfl _ _ gb102 23 #[.bool (x102001_1.toList != ([] : List UInt8)), .string x102001_1] (0, 0) _ rfl (by (with_reducible repeat (first | refine blk_drewN ?_ _ | refine blk_drew ?_ | refine blk_alloc ?_ _)); refine blk_put (cs := #[.bool (x102001_1.toList != ([] : List UInt8)), .string (⟨#[]⟩ : ByteArray)]) ?_ 1 _ (by first | rfl | simp [bne_nil_]); (with_reducible repeat (first | refine blk_drewN ?_ _ | refine blk_drew ?_ | refine blk_alloc ?_ _)); refine blk_put (cs := #[.bool false, .string (⟨#[]⟩ : ByteArray)]) ?_ 0 _ (by first | rfl | simp [bne_nil_]); (with_reducible repeat (first | refine blk_drewN ?_ _ | refine blk_drew ?_ | refine blk_alloc ?_ _)); refine blk_far ?_ NB102_101.out _; (with_reducible repeat (first | refine blk_drewN ?_ _ | refine blk_drew ?_ | refine blk_alloc ?_ _)); exact BK102.out) Tryz.underlying23 rfl (by kernel_rfl)) rfl ?_
          exact ⟨by first | rfl | (simp [errW_none, errW_some] <;> rfl) | (simp [*, errW_none, errW_some] <;> rfl) | (simp [bne_nil_]; done), by repeat (first | (with_reducible first | exact HB.out | apply below_alloc | apply pw_below_drewN | apply below_drew1 | refine below_set ?_ GE101.out | refine below_set ?_ GE102.out) | exact HB.out)⟩
        · replace c18 := Bool.eq_false_iff.mpr c18
          subst c18
          have H1 : (some (false, x102001_1)) = some (r1, r2) := by rw [if_neg (show ¬ (false = true) by decide)] at H; exact H
          clear H
          have H := H1
          clear H1
          simp only [Option.some.injEq, Prod.mk.injEq] at H
          obtain ⟨rfl, rfl⟩ := H
          have hnb22 := NB101_102.out
          have hnc22 := NB102_101.out
          have hcz23_0 : wr.cell? ⟨gb101, 0, none⟩ = some (.bool false) := (blk_cell BK101.out 0).trans rfl
          have hcz23_1 : wr.cell? ⟨gb101, 1, none⟩ = some (.string x102001_1) := (blk_cell BK101.out 1).trans rfl
          have hfz23_0 := blk_frozen BK101.out 0
          have hfz23_1 := blk_frozen BK101.out 1
          have hcz24_0 : wr.cell? ⟨gb102, 0, none⟩ = some (.bool false) := (blk_cell BK102.out 0).trans rfl
          have hcz24_1 : wr.cell? ⟨gb102, 1, none⟩ = some (.string (⟨#[]⟩ : ByteArray)) := (blk_cell BK102.out 1).trans rfl
          have hfz24_0 := blk_frozen BK102.out 0
          have hfz24_1 := blk_frozen BK102.out 1
          go_wp2
          refine bodyPost_ret (results_cell_row rfl _ _ gb102 23 #[.bool false, .string x102001_1] (0, 0) _ rfl (by (with_reducible repeat (first | refine blk_drewN ?_ _ | refine blk_drew ?_ | refine blk_alloc ?_ _)); refine blk_put (cs := #[.bool false, .string (⟨#[]⟩ : ByteArray)]) ?_ 1 _ rfl; (with_reducible repeat (first | refine blk_drewN ?_ _ | refine blk_drew ?_ | refine blk_alloc ?_ _)); refine blk_put (cs := #[.bool false, .string (⟨#[]⟩ : ByteArray)]) ?_ 0 _ rfl; (with_reducible repeat (first | refine blk_drewN ?_ _ | refine blk_drew ?_ | refine blk_alloc ?_ _)); refine blk_far ?_ NB102_101.out _; (with_reducible repeat (first | refine blk_drewN ?_ _ | refine blk_drew ?_ | refine blk_alloc ?_ _)); exact BK102.out) Tryz.underlying23 rfl (by kernel_rfl)) rfl ?_
          exact ⟨by first | rfl | (simp [errW_none, errW_some] <;> rfl) | (simp [*, errW_none, errW_some] <;> rfl) | (simp [bne_nil_]; done), by repeat (first | (with_reducible first | exact HB.out | apply below_alloc | apply pw_below_drewN | apply below_drew1 | refine below_set ?_ GE101.out | refine below_set ?_ GE102.out) | exact HB.out)⟩

/-! ### spec_IntOK: function 21 -/
def spec_IntOK.f (k : Nat) (a0_0 : Bool) (a0_1 : ByteArray) : Option (Bool) := (spec_numTidy.f k a0_0 a0_1).bind fun bt104 => (some (bt104.1 == a0_0 && (bt104.2.toList == a0_1.toList)))
theorem spec_IntOK.mono : ∀ a0 a1 k, LeO (spec_IntOK.f k a0 a1) (spec_IntOK.f (k + 1) a0 a1) := by
  intro a0 a1 k
  unfold spec_IntOK.f
  repeat' first
      | (with_reducible exact spec_numTidy.mono _ _ _)
      | (with_reducible exact LeO.refl _)
      | (with_reducible exact LeO.none _)
      | (with_reducible refine LeO.ite ?_ ?_)
      | (with_reducible refine LeO.bind ?_ (fun _ => ?_))
      | exact spec_numTidy.mono _ _ _
      | exact LeO.none _
      | refine LeO.ite ?_ ?_
      | refine LeO.bind ?_ (fun _ => ?_)
set_option maxHeartbeats 8000000 in
set_option maxRecDepth 100000 in
theorem spec_IntOK.calls (k : Nat) (a0_0 : Bool) (a0_1 : ByteArray) (r : Bool) (w : World) (h : spec_IntOK.f k a0_0 a0_1 = some r) :
    Calls Tryz.prog 21 #[.agg #[.bool a0_0, .string a0_1]] w fun e w' => e = .returned (.bool r) ∧ Below w.heap.size w w' := by
  have hu23 := Tryz.underlying23
  have HB := Aside0.mk (Below.refl w.heap.size w)
  have H : ((spec_numTidy.f k a0_0 a0_1).bind fun bt104 => (some (bt104.1 == a0_0 && (bt104.2.toList == a0_1.toList)))) = some r := h
  clear h
  replace H := Option.bind_eq_some_iff.mp H
  obtain ⟨⟨t104, t105⟩, A20, H⟩ := H
  replace H : (some (t104 == a0_0 && (t105.toList == a0_1.toList))) = some r := H
  have A2 := Aside0.mk A20
  clear A20
  obtain rfl := Option.some.inj H
  go_enter Tryz.func21, Tryz.ntmps21
  try go_wp2_with (first | ((with_reducible refine gate_dst (N := 1) rfl ?_); refine box_event ?hg (N := 1) ?hd (cs := #[.bool a0_0, .string a0_1]) (t := 23) ?hr ?_; (case hd => rfl); (case hg => rfl); (case hr => first | (go_simp; done) | (go_simp; rfl)); intro gb103 hg w3 hbox hb; have n0_ := Aside0.mk (below_step (by repeat (first | (with_reducible first | exact HB.out | apply below_alloc | apply pw_below_drewN | apply below_drew1) | exact HB.out)) hb); have n1_ := Aside0.mk (hbox); have n2_ := Aside0.mk ((by rw [hg]; exact (below_size (by repeat (first | (with_reducible first | exact HB.out | apply below_alloc | apply pw_below_drewN | apply below_drew1) | exact HB.out))) : w.heap.size ≤ gb103)); have n3_ := Aside0.mk ((by rw [hg]; exact (below_size (by repeat (first | (with_reducible first | exact HB.out | apply below_alloc | apply pw_below_drewN | apply below_drew1) | exact HB.out))) : w.heap.size ≤ gb103)); clear HB; have HB := n0_; have BK103 := n1_; have GW103 := n2_; have GE103 := n3_; clear n0_ n1_ n2_ n3_; clear hb hbox hg))
  have n0_ := Aside0.mk (blk_drew BK103.out)
  have n1_ := Aside0.mk (below_drew1 HB.out)
  clear BK103
  clear HB
  have BK103 := n0_
  have HB := n1_
  clear n0_ n1_
  refine start_ (n := 5) (S := fun w' => w'.cell? ⟨gb103, 0, none⟩ = some (.bool a0_0) ∧ w'.cell? ⟨gb103, 1, none⟩ = some (.string a0_1)) (ds := []) #[false, false, false, false, false] (by kernel_rfl) rfl rfl ⟨(blk_cell BK103.out 0).trans rfl, (blk_cell BK103.out 1).trans rfl⟩ (fun hHeld => ?_)
  generalize w3.drew = w4 at BK103 HB hHeld ⊢
  refine take_ (i := 0) (N := some 3) (v := ?_) (a' := ?_) #[true, false, false, false, false] rfl rfl (by kernel_rfl) (fun _ _ _ h => h) (Or.inl ⟨by rfl, ?_⟩) hHeld ?_ ?_
  rotate_left
  · rintro w' ⟨s0, s1⟩
    go_simp
    with_reducible rfl
  rotate_left
  · simp only [Act.put, List.setIfInBounds_toArray, List.set_cons_zero, List.set_cons_succ, i64_w, i32_w]
    rfl
  refine take_ (i := 2) (N := some 5) (v := ?_) (a' := ?_) #[true, false, true, false, false] rfl rfl (by kernel_rfl) (fun _ _ _ h => h) (Or.inl ⟨by rfl, ?_⟩) hHeld ?_ ?_
  rotate_left
  · rintro w' ⟨s0, s1⟩
    go_simp
    with_reducible rfl
  rotate_left
  · simp only [Act.put, List.setIfInBounds_toArray, List.set_cons_zero, List.set_cons_succ, i64_w, i32_w]
    rfl
  refine one_ (i := 1) (N := some 4) #[true, true, true, false, false] rfl rfl (by kernel_rfl) (by decide) (fun K hK => ?_)
  refine goes_ Tryz.func31 (by kernel_rfl) rfl #[.agg #[.bool a0_0, .string a0_1]] (by rfl) rfl rfl (by (try simp only [List.map_toArray, List.map_cons, List.map_nil]); first | done | rfl | (simp only [List.length_drop, List.length_take]; rfl)) ?_
  with_reducible refine (spec_numTidy.calls k a0_0 a0_1 t104 t105 _ A2.out).mono ?_
  rintro e w5 ⟨rfl, hb⟩
  refine ⟨_, rfl, ?_⟩
  have n0_ := Aside0.mk (blk_below (g := gb103) (o := .cells #[.bool a0_0, .string a0_1] 23 (0, 0)) (by (with_reducible repeat (first | refine blk_drewN ?_ _ | refine blk_drew ?_ | refine blk_alloc ?_ _)); exact BK103.out) hb)
  have n1_ := Aside0.mk (below_step (by repeat (first | (with_reducible first | exact HB.out | apply below_alloc | apply pw_below_drewN | apply below_drew1 | refine below_set ?_ GE103.out) | exact HB.out)) hb)
  clear BK103
  clear HB
  have BK103 := n0_
  have HB := n1_
  clear n0_ n1_
  (try clear hb)
  (try clear hb2)
  (try clear hk)
  (try clear hi)
  refine hK.out _ _ ⟨(blk_cell BK103.out 0).trans rfl, (blk_cell BK103.out 1).trans rfl⟩ (fun hHeld => ?_)
  clear hK K
  refine norm_ (a' := ?_) ?_ ?_
  rotate_left
  · show Act.put _ (some 4) _ = _
    simp only [Act.put, List.setIfInBounds_toArray, List.set_cons_zero, List.set_cons_succ, i64_w, i32_w]
    rfl
  refine pure_ (i := 3) (N := some 6) (v := ?_) (a' := ?_) #[true, true, true, true, false] rfl rfl (by kernel_rfl) (fun _ _ _ h => h) (Or.inl ⟨by rfl, ?_⟩) ?_ ?_
  rotate_left
  · intro w'
    go_simp
    with_reducible rfl
  rotate_left
  · simp only [Act.put, List.setIfInBounds_toArray, List.set_cons_zero, List.set_cons_succ, i64_w, i32_w]
    rfl
  refine pure_ (i := 4) (N := some 2) (v := ?_) (a' := ?_) #[true, true, true, true, true] rfl rfl (by kernel_rfl) (fun _ _ _ h => h) (Or.inl ⟨by rfl, ?_⟩) ?_ ?_
  rotate_left
  · intro w'
    go_simp
    with_reducible rfl
  rotate_left
  · simp only [Act.put, List.setIfInBounds_toArray, List.set_cons_zero, List.set_cons_succ, i64_w, i32_w]
    rfl
  refine done_ (by kernel_rfl) ?_
  try go_wp2
  go_ret
  exact ⟨by first | rfl | (simp [errW_none, errW_some] <;> rfl) | (simp [*, errW_none, errW_some] <;> rfl) | (simp [bne_nil_]; done), by repeat (first | (with_reducible first | exact HB.out | apply below_alloc | apply pw_below_drewN | apply below_drew1 | refine below_set ?_ GE103.out) | exact HB.out)⟩

/-! ### spec_IntsOK: function 22 -/
def spec_IntsOK.l0 : Nat → List (S23) → Int → Option (Bool)
  | 0, _, _ => none
  | k + 1, x0, x3 => if x3 < (x0.length : Int) then (if 0 ≤ x3 then ((spec_IntOK.f k ((rd_T23 x0 x3).f0) ((rd_T23 x0 x3).f1)).bind fun t107 => (if t107 = true then (spec_IntsOK.l0 k x0 (wrap64 (x3 + 1))) else (some false))) else (none)) else (some true)
def spec_IntsOK.f (k : Nat) (l0 : List (S23)) : Option (Bool) := spec_IntsOK.l0 k l0 0
theorem spec_IntsOK.mono_l : ∀ k, (∀ y0 y1, LeO (spec_IntsOK.l0 k y0 y1) (spec_IntsOK.l0 (k + 1) y0 y1))
  | 0 => fun _ _ r h => by simp [spec_IntsOK.l0] at h
  | k + 1 => by
    have ih0 := spec_IntsOK.mono_l k
    · intro y0 y1
      unfold spec_IntsOK.l0
      repeat' first
      | (with_reducible exact ih0 _ _)
      | (with_reducible exact spec_IntOK.mono _ _ _)
      | (with_reducible exact LeO.refl _)
      | (with_reducible exact LeO.none _)
      | (with_reducible refine LeO.ite ?_ ?_)
      | (with_reducible refine LeO.bind ?_ (fun _ => ?_))
      | exact ih0 _ _
      | exact spec_IntOK.mono _ _ _
      | exact LeO.none _
      | refine LeO.ite ?_ ?_
      | refine LeO.bind ?_ (fun _ => ?_)
theorem spec_IntsOK.mono : ∀ a0 k, LeO (spec_IntsOK.f k a0) (spec_IntsOK.f (k + 1) a0) := by
  intro a0 k
  have ih0 := spec_IntsOK.mono_l k
  unfold spec_IntsOK.f
  repeat' first
      | (with_reducible exact ih0 _ _)
      | (with_reducible exact spec_IntOK.mono _ _ _)
      | (with_reducible exact LeO.refl _)
      | (with_reducible exact LeO.none _)
      | (with_reducible refine LeO.ite ?_ ?_)
      | (with_reducible refine LeO.bind ?_ (fun _ => ?_))
      | exact ih0 _ _
      | exact spec_IntOK.mono _ _ _
      | exact LeO.none _
      | refine LeO.ite ?_ ?_
      | refine LeO.bind ?_ (fun _ => ?_)
set_option maxHeartbeats 8000000 in
set_option maxRecDepth 100000 in
theorem spec_IntsOK.calls (k : Nat) (A0 : Option Addr) (c0 : Nat) (l0 : List (S23)) (r : Bool) (w : World) (hr0 : Kd.C k23 w A0 l0.length l0) (hc0 : l0.length ≤ c0) (h : spec_IntsOK.f k l0 = some r) :
    Calls Tryz.prog 22 #[.slice A0 l0.length c0] w fun e w' => e = .returned (.bool r) ∧ Below w.heap.size w w' := by
  have hu23 := Tryz.underlying23
  have HR0 := Aside0.mk hr0
  have HC0 := Aside0.mk hc0
  clear hr0 hc0
  have HB := Aside0.mk (Below.refl w.heap.size w)
  have H : (spec_IntsOK.l0 k l0 0) = some r := h
  clear h
  have H' := Aside0.mk H
  clear H
  go_enter Tryz.func22, Tryz.ntmps22
  go_wp2
  go_loopg [3] k (fun kq v3 w' => ∃ (x3_1 : Int), v3 = .int .i64 x3_1 ∧ Aside0 (spec_IntsOK.l0 kq l0 x3_1 = some r) ∧ Aside0 (kq ≤ k) ∧ Aside0 (Below w.heap.size w w'))
  case atStart => exact ⟨(0), (by first | rfl | (simp; done) | (simp [*]; done) | (simp [bne_nil_]; done)), H', ⟨Nat.le_refl _⟩, ⟨by repeat (first | (with_reducible first | exact HB.out | apply below_alloc | apply pw_below_drewN | apply below_drew1) | exact HB.out)⟩⟩
  case round =>
    clear H'
    obtain ⟨x3_1, rfl, HA, HK1, HB⟩ := hrel
    cases gk with
    | zero => exact absurd HA.out (by simp [spec_IntsOK.l0])
    | succ k1 =>
      have H := HA.out
      clear HA
      simp only [spec_IntsOK.l0] at H
      by_cases c2 : x3_1 < (l0.length : Int)
      · rw [if_pos c2] at H
        have c2b0 : decide (x3_1 < (l0.length : Int)) = true := decide_eq_true c2
        clear c2
        by_cases c3 : 0 ≤ x3_1
        · rw [if_pos c3] at H
          have c3b0 : decide (0 ≤ x3_1) = true := decide_eq_true c3
          clear c3
          replace H := Option.bind_eq_some_iff.mp H
          obtain ⟨t107, A40, H⟩ := H
          replace H : (if t107 = true then (spec_IntsOK.l0 k1 l0 (wrap64 (x3_1 + 1))) else (some false)) = some r := H
          have A4 := Aside0.mk A40
          clear A40
          by_cases c5 : t107 = true
          · subst c5
            have H1 : (spec_IntsOK.l0 k1 l0 (wrap64 (x3_1 + 1))) = some r := by rw [if_pos rfl] at H; exact H
            clear H
            have H := H1
            clear H1
            have H' := Aside0.mk H
            clear H
            have p106 : 0 ≤ (x3_1 : Int) := of_decide_eq_true (by first | (with_reducible assumption) | assumption)
            have q106 : x3_1 < (l0.length : Int) := of_decide_eq_true (by first | (with_reducible assumption) | assumption)
            obtain ⟨ad106, e106, hx106_0, hx106_1⟩ := at_T23 HR0.out x3_1 p106 q106
            cases e106
            replace hx106_0 := (HB.out.cell (World.block_lt_of_cell? w _ hx106_0)).trans hx106_0
            replace hx106_1 := (HB.out.cell (World.block_lt_of_cell? w _ hx106_1)).trans hx106_1
            replace p106 := eq_true p106
            replace q106 := eq_true q106
            go_wp2_with (first | ((with_reducible refine gate_callee (f := 21) rfl ?_); refine goesL_ (some 14) rfl rfl Tryz.func21 (by kernel_rfl) rfl #[.agg #[.bool ((rd_T23 l0 x3_1).f0), .string ((rd_T23 l0 x3_1).f1)]] rfl (by (try simp only [List.map_toArray, List.map_cons, List.map_nil]); first | done | rfl | (simp only [List.length_drop, List.length_take]; rfl)) ?_; (with_reducible refine (spec_IntOK.calls k1 ((rd_T23 l0 x3_1).f0) ((rd_T23 l0 x3_1).f1) true _ A4.out).mono ?_); rintro e w6 ⟨rfl, hb⟩; refine ⟨_, rfl, ?_⟩; have n0_ := Aside0.mk (below_step (by repeat (first | (with_reducible first | exact HB.out | apply below_alloc | apply pw_below_drewN | apply below_drew1) | exact HB.out)) hb); clear HB; have HB := n0_; clear n0_; (try clear hb); (try clear hb2); (try clear hk); (try clear hi)))
            go_roundg k1
            case measure => have := HK1.out; omega
            case rel => exact ⟨(wrap64 (x3_1 + 1)), (by first | rfl | (simp; done) | (simp [*]; done) | (simp [bne_nil_]; done)), H', ⟨by have := HK1.out; omega⟩, ⟨by repeat (first | (with_reducible first | exact HB.out | apply below_alloc | apply pw_below_drewN | apply below_drew1) | exact HB.out)⟩⟩
          · replace c5 := Bool.eq_false_iff.mpr c5
            subst c5
            have H1 : (some false) = some r := by rw [if_neg (show ¬ (false = true) by decide)] at H; exact H
            clear H
            have H := H1
            clear H1
            obtain rfl := Option.some.inj H
            have p106 : 0 ≤ (x3_1 : Int) := of_decide_eq_true (by first | (with_reducible assumption) | assumption)
            have q106 : x3_1 < (l0.length : Int) := of_decide_eq_true (by first | (with_reducible assumption) | assumption)
            obtain ⟨ad106, e106, hx106_0, hx106_1⟩ := at_T23 HR0.out x3_1 p106 q106
            cases e106
            replace hx106_0 := (HB.out.cell (World.block_lt_of_cell? w _ hx106_0)).trans hx106_0
            replace hx106_1 := (HB.out.cell (World.block_lt_of_cell? w _ hx106_1)).trans hx106_1
            replace p106 := eq_true p106
            replace q106 := eq_true q106
            go_wp2_with (first | ((with_reducible refine gate_callee (f := 21) rfl ?_); refine goesL_ (some 14) rfl rfl Tryz.func21 (by kernel_rfl) rfl #[.agg #[.bool ((rd_T23 l0 x3_1).f0), .string ((rd_T23 l0 x3_1).f1)]] rfl (by (try simp only [List.map_toArray, List.map_cons, List.map_nil]); first | done | rfl | (simp only [List.length_drop, List.length_take]; rfl)) ?_; (with_reducible refine (spec_IntOK.calls k1 ((rd_T23 l0 x3_1).f0) ((rd_T23 l0 x3_1).f1) false _ A4.out).mono ?_); rintro e w7 ⟨rfl, hb⟩; refine ⟨_, rfl, ?_⟩; have n0_ := Aside0.mk (below_step (by repeat (first | (with_reducible first | exact HB.out | apply below_alloc | apply pw_below_drewN | apply below_drew1) | exact HB.out)) hb); clear HB; have HB := n0_; clear n0_; (try clear hb); (try clear hb2); (try clear hk); (try clear hi)))
            go_ret
            exact ⟨by first | rfl | (simp [errW_none, errW_some] <;> rfl) | (simp [*, errW_none, errW_some] <;> rfl) | (simp [bne_nil_]; done), by repeat (first | (with_reducible first | exact HB.out | apply below_alloc | apply pw_below_drewN | apply below_drew1) | exact HB.out)⟩
        · rw [if_neg c3] at H
          exact absurd H (by simp)
      · rw [if_neg c2] at H
        have c2b0 : decide (x3_1 < (l0.length : Int)) = false := decide_eq_false c2
        clear c2
        obtain rfl := Option.some.inj H
        go_wp2
        go_ret
        exact ⟨by first | rfl | (simp [errW_none, errW_some] <;> rfl) | (simp [*, errW_none, errW_some] <;> rfl) | (simp [bne_nil_]; done), by repeat (first | (with_reducible first | exact HB.out | apply below_alloc | apply pw_below_drewN | apply below_drew1) | exact HB.out)⟩

/-! ### spec_Ascii: function 23 -/
def spec_Ascii.l0 : Nat → ByteArray → Int → Option (Bool)
  | 0, _, _ => none
  | k + 1, x0, x3 => if x3 < (x0.size : Int) then (if 0 ≤ x3 then (if (bt x0 x3) > 127 then (some false) else (spec_Ascii.l0 k x0 (wrap64 (x3 + 1)))) else (none)) else (some true)
def spec_Ascii.f (k : Nat) (a0 : ByteArray) : Option (Bool) := spec_Ascii.l0 k a0 0
theorem spec_Ascii.mono_l : ∀ k, (∀ y0 y1, LeO (spec_Ascii.l0 k y0 y1) (spec_Ascii.l0 (k + 1) y0 y1))
  | 0 => fun _ _ r h => by simp [spec_Ascii.l0] at h
  | k + 1 => by
    have ih0 := spec_Ascii.mono_l k
    · intro y0 y1
      unfold spec_Ascii.l0
      repeat' first
      | (with_reducible exact ih0 _ _)
      | (with_reducible exact LeO.refl _)
      | (with_reducible exact LeO.none _)
      | (with_reducible refine LeO.ite ?_ ?_)
      | (with_reducible refine LeO.bind ?_ (fun _ => ?_))
      | exact ih0 _ _
      | exact LeO.none _
      | refine LeO.ite ?_ ?_
      | refine LeO.bind ?_ (fun _ => ?_)
theorem spec_Ascii.mono : ∀ a0 k, LeO (spec_Ascii.f k a0) (spec_Ascii.f (k + 1) a0) := by
  intro a0 k
  have ih0 := spec_Ascii.mono_l k
  unfold spec_Ascii.f
  repeat' first
      | (with_reducible exact ih0 _ _)
      | (with_reducible exact LeO.refl _)
      | (with_reducible exact LeO.none _)
      | (with_reducible refine LeO.ite ?_ ?_)
      | (with_reducible refine LeO.bind ?_ (fun _ => ?_))
      | exact ih0 _ _
      | exact LeO.none _
      | refine LeO.ite ?_ ?_
      | refine LeO.bind ?_ (fun _ => ?_)
set_option maxHeartbeats 8000000 in
set_option maxRecDepth 100000 in
theorem spec_Ascii.calls (k : Nat) (a0 : ByteArray) (r : Bool) (w : World) (h : spec_Ascii.f k a0 = some r) :
    Calls Tryz.prog 23 #[.string a0] w fun e w' => e = .returned (.bool r) ∧ Drawn0 w w' := by
  have H : (spec_Ascii.l0 k a0 0) = some r := h
  clear h
  have H' := Aside0.mk H
  clear H
  go_enter Tryz.func23, Tryz.ntmps23
  go_wp2
  go_loopg [3] k (fun kq v3 w' => ∃ (x3_1 : Int), v3 = .int .i64 x3_1 ∧ Aside0 (spec_Ascii.l0 kq a0 x3_1 = some r) ∧ Aside0 (kq ≤ k) ∧ Drawn0 w w')
  case atStart => exact ⟨(0), (by first | rfl | (simp; done) | (simp [*]; done) | (simp [bne_nil_]; done)), H', ⟨Nat.le_refl _⟩, by repeat (first | exact Drawn0.refl _ | apply Drawn0.step)⟩
  case round =>
    clear H'
    obtain ⟨x3_1, rfl, HA, HK1, ⟨m1, rfl⟩⟩ := hrel
    cases gk with
    | zero => exact absurd HA.out (by simp [spec_Ascii.l0])
    | succ k1 =>
      have H := HA.out
      clear HA
      simp only [spec_Ascii.l0] at H
      by_cases c2 : x3_1 < (a0.size : Int)
      · rw [if_pos c2] at H
        have c2b0 : decide (x3_1 < (a0.size : Int)) = true := decide_eq_true c2
        clear c2
        by_cases c3 : 0 ≤ x3_1
        · rw [if_pos c3] at H
          have c3b0 : decide (0 ≤ x3_1) = true := decide_eq_true c3
          clear c3
          by_cases c5 : (bt a0 x3_1) > 127
          · rw [if_pos c5] at H
            have c5b0 : decide (127 < (bt a0 x3_1)) = true := decide_eq_true c5
            clear c5
            obtain rfl := Option.some.inj H
            have p4 : 0 ≤ (x3_1 : Int) := of_decide_eq_true (by first | (with_reducible assumption) | assumption)
            have q4 : x3_1 < (a0.size : Int) := of_decide_eq_true (by first | (with_reducible assumption) | assumption)
            have hx4 := bt_at a0 x3_1
            replace p4 := eq_true p4
            replace q4 := eq_true q4
            go_wp2
            go_ret
            exact ⟨by first | rfl | (simp; done) | (simp [*]; done) | (simp [bne_nil_]; done), by repeat (first | exact Drawn0.refl _ | apply Drawn0.step)⟩
          · rw [if_neg c5] at H
            have c5b0 : decide (127 < (bt a0 x3_1)) = false := decide_eq_false c5
            clear c5
            have H' := Aside0.mk H
            clear H
            have p4 : 0 ≤ (x3_1 : Int) := of_decide_eq_true (by first | (with_reducible assumption) | assumption)
            have q4 : x3_1 < (a0.size : Int) := of_decide_eq_true (by first | (with_reducible assumption) | assumption)
            have hx4 := bt_at a0 x3_1
            replace p4 := eq_true p4
            replace q4 := eq_true q4
            go_wp2
            go_roundg k1
            case measure => have := HK1.out; omega
            case rel => exact ⟨(wrap64 (x3_1 + 1)), (by first | rfl | (simp; done) | (simp [*]; done) | (simp [bne_nil_]; done)), H', ⟨by have := HK1.out; omega⟩, by repeat (first | exact Drawn0.refl _ | apply Drawn0.step)⟩
        · rw [if_neg c3] at H
          exact absurd H (by simp)
      · rw [if_neg c2] at H
        have c2b0 : decide (x3_1 < (a0.size : Int)) = false := decide_eq_false c2
        clear c2
        obtain rfl := Option.some.inj H
        go_wp2
        go_ret
        exact ⟨by first | rfl | (simp; done) | (simp [*]; done) | (simp [bne_nil_]; done), by repeat (first | exact Drawn0.refl _ | apply Drawn0.step)⟩

/-! ### spec_pypiLetterOK: function 24 -/
def spec_pypiLetterOK.f (k : Nat) (a0_0 : Bool) (a0_1 : ByteArray) (a0_2 : Bool) (a0_3 : ByteArray) : Option (Bool) := (spec_IntOK.f k a0_2 a0_3).bind fun t109 => (if t109 = true then (if a0_2 = true then (some false) else ((spec_Ascii.f k a0_1).bind fun t110 => (if t110 = true then (if a0_0 = true then (some (a0_1.toList != ([] : List UInt8))) else (some true)) else (some false)))) else (some false))
theorem spec_pypiLetterOK.mono : ∀ a0 a1 a2 a3 k, LeO (spec_pypiLetterOK.f k a0 a1 a2 a3) (spec_pypiLetterOK.f (k + 1) a0 a1 a2 a3) := by
  intro a0 a1 a2 a3 k
  unfold spec_pypiLetterOK.f
  repeat' first
      | (with_reducible exact spec_Ascii.mono _ _)
      | (with_reducible exact spec_IntOK.mono _ _ _)
      | (with_reducible exact LeO.refl _)
      | (with_reducible exact LeO.none _)
      | (with_reducible refine LeO.ite ?_ ?_)
      | (with_reducible refine LeO.bind ?_ (fun _ => ?_))
      | exact spec_Ascii.mono _ _
      | exact spec_IntOK.mono _ _ _
      | exact LeO.none _
      | refine LeO.ite ?_ ?_
      | refine LeO.bind ?_ (fun _ => ?_)
set_option maxHeartbeats 8000000 in
set_option maxRecDepth 100000 in
theorem spec_pypiLetterOK.calls (k : Nat) (a0_0 : Bool) (a0_1 : ByteArray) (a0_2 : Bool) (a0_3 : ByteArray) (r : Bool) (w : World) (h : spec_pypiLetterOK.f k a0_0 a0_1 a0_2 a0_3 = some r) :
    Calls Tryz.prog 24 #[.agg #[.bool a0_0, .string a0_1, .bool a0_2, .string a0_3]] w fun e w' => e = .returned (.bool r) ∧ Below w.heap.size w w' := by
  have hu26 := Tryz.underlying26
  have hu23 := Tryz.underlying23
  have HB := Aside0.mk (Below.refl w.heap.size w)
  have H : ((spec_IntOK.f k a0_2 a0_3).bind fun t109 => (if t109 = true then (if a0_2 = true then (some false) else ((spec_Ascii.f k a0_1).bind fun t110 => (if t110 = true then (if a0_0 = true then (some (a0_1.toList != ([] : List UInt8))) else (some true)) else (some false)))) else (some false))) = some r := h
  clear h
  replace H := Option.bind_eq_some_iff.mp H
  obtain ⟨t109, A20, H⟩ := H
  replace H : (if t109 = true then (if a0_2 = true then (some false) else ((spec_Ascii.f k a0_1).bind fun t110 => (if t110 = true then (if a0_0 = true then (some (a0_1.toList != ([] : List UInt8))) else (some true)) else (some false)))) else (some false)) = some r := H
  have A2 := Aside0.mk A20
  clear A20
  by_cases c3 : t109 = true
  · subst c3
    have H1 : (if a0_2 = true then (some false) else ((spec_Ascii.f k a0_1).bind fun t110 => (if t110 = true then (if a0_0 = true then (some (a0_1.toList != ([] : List UInt8))) else (some true)) else (some false)))) = some r := by rw [if_pos rfl] at H; exact H
    clear H
    have H := H1
    clear H1
    by_cases c4 : a0_2 = true
    · subst c4
      have H1 : (some false) = some r := by rw [if_pos rfl] at H; exact H
      clear H
      have H := H1
      clear H1
      obtain rfl := Option.some.inj H
      go_enter Tryz.func24, Tryz.ntmps24
      go_wp2_with (first | ((with_reducible refine gate_dst (N := 1) rfl ?_); refine box_event ?hg (N := 1) ?hd (cs := #[.bool a0_0, .string a0_1, .bool true, .string a0_3]) (t := 26) ?hr ?_; (case hd => rfl); (case hg => rfl); (case hr => first | (go_simp; done) | (go_simp; rfl)); intro gb108 hg w5 hbox hb; have n0_ := Aside0.mk (below_step (by repeat (first | (with_reducible first | exact HB.out | apply below_alloc | apply pw_below_drewN | apply below_drew1) | exact HB.out)) hb); have n1_ := Aside0.mk (hbox); have n2_ := Aside0.mk ((by rw [hg]; exact (below_size (by repeat (first | (with_reducible first | exact HB.out | apply below_alloc | apply pw_below_drewN | apply below_drew1) | exact HB.out))) : w.heap.size ≤ gb108)); have n3_ := Aside0.mk ((by rw [hg]; exact (below_size (by repeat (first | (with_reducible first | exact HB.out | apply below_alloc | apply pw_below_drewN | apply below_drew1) | exact HB.out))) : w.heap.size ≤ gb108)); clear HB; have HB := n0_; have BK108 := n1_; have GW108 := n2_; have GE108 := n3_; clear n0_ n1_ n2_ n3_; clear hb hbox hg; have hcz6_0 : w5.cell? ⟨gb108, 0, none⟩ = some (.bool a0_0) := (blk_cell BK108.out 0).trans rfl; have hcz6_1 : w5.cell? ⟨gb108, 1, none⟩ = some (.string a0_1) := (blk_cell BK108.out 1).trans rfl; have hcz6_2 : w5.cell? ⟨gb108, 2, none⟩ = some (.bool true) := (blk_cell BK108.out 2).trans rfl; have hcz6_3 : w5.cell? ⟨gb108, 3, none⟩ = some (.string a0_3) := (blk_cell BK108.out 3).trans rfl; have hfz6_0 := blk_frozen BK108.out 0; have hfz6_1 := blk_frozen BK108.out 1; have hfz6_2 := blk_frozen BK108.out 2; have hfz6_3 := blk_frozen BK108.out 3) | ((with_reducible refine gate_callee (f := 21) rfl ?_); refine goesL_ (some 5) rfl rfl Tryz.func21 (by kernel_rfl) rfl #[.agg #[.bool true, .string a0_3]] rfl (by (try simp only [List.map_toArray, List.map_cons, List.map_nil]); first | done | rfl | (simp only [List.length_drop, List.length_take]; rfl)) ?_; (with_reducible refine (spec_IntOK.calls k true a0_3 true _ A2.out).mono ?_); rintro e w7 ⟨rfl, hb⟩; refine ⟨_, rfl, ?_⟩; have n0_ := Aside0.mk (blk_below (g := gb108) (o := .cells #[.bool a0_0, .string a0_1, .bool true, .string a0_3] 26 (0, 0)) (by (with_reducible repeat (first | refine blk_drewN ?_ _ | refine blk_drew ?_ | refine blk_alloc ?_ _)); exact BK108.out) hb); have n1_ := Aside0.mk (below_step (by repeat (first | (with_reducible first | exact HB.out | apply below_alloc | apply pw_below_drewN | apply below_drew1 | refine below_set ?_ GE108.out) | exact HB.out)) hb); clear BK108; clear HB; have BK108 := n0_; have HB := n1_; clear n0_ n1_; (try clear hb); (try clear hb2); (try clear hk); (try clear hi); have hcz8_0 : w7.cell? ⟨gb108, 0, none⟩ = some (.bool a0_0) := (blk_cell BK108.out 0).trans rfl; have hcz8_1 : w7.cell? ⟨gb108, 1, none⟩ = some (.string a0_1) := (blk_cell BK108.out 1).trans rfl; have hcz8_2 : w7.cell? ⟨gb108, 2, none⟩ = some (.bool true) := (blk_cell BK108.out 2).trans rfl; have hcz8_3 : w7.cell? ⟨gb108, 3, none⟩ = some (.string a0_3) := (blk_cell BK108.out 3).trans rfl; have hfz8_0 := blk_frozen BK108.out 0; have hfz8_1 := blk_frozen BK108.out 1; have hfz8_2 := blk_frozen BK108.out 2; have hfz8_3 := blk_frozen BK108.out 3))
      go_ret
      exact ⟨by first | rfl | (simp [errW_none, errW_some] <;> rfl) | (simp [*, errW_none, errW_some] <;> rfl) | (simp [bne_nil_]; done), by repeat (first | (with_reducible first | exact HB.out | apply below_alloc | apply pw_below_drewN | apply below_drew1 | refine below_set ?_ GE108.out) | exact HB.out)⟩
    · replace c4 := Bool.eq_false_iff.mpr c4
      subst c4
      have H1 : ((spec_Ascii.f k a0_1).bind fun t110 => (if t110 = true then (if a0_0 = true then (some (a0_1.toList != ([] : List UInt8))) else (some true)) else (some false))) = some r := by rw [if_neg (show ¬ (false = true) by decide)] at H; exact H
      clear H
      have H := H1
      clear H1
      replace H := Option.bind_eq_some_iff.mp H
      obtain ⟨t110, A90, H⟩ := H
      replace H : (if t110 = true then (if a0_0 = true then (some (a0_1.toList != ([] : List UInt8))) else (some true)) else (some false)) = some r := H
      have A9 := Aside0.mk A90
      clear A90
      by_cases c10 : t110 = true
      · subst c10
        have H1 : (if a0_0 = true then (some (a0_1.toList != ([] : List UInt8))) else (some true)) = some r := by rw [if_pos rfl] at H; exact H
        clear H
        have H := H1
        clear H1
        by_cases c11 : a0_0 = true
        · subst c11
          have H1 : (some (a0_1.toList != ([] : List UInt8))) = some r := by rw [if_pos rfl] at H; exact H
          clear H
          have H := H1
          clear H1
          obtain rfl := Option.some.inj H
          go_enter Tryz.func24, Tryz.ntmps24
          go_wp2_with (first | ((with_reducible refine gate_dst (N := 1) rfl ?_); refine box_event ?hg (N := 1) ?hd (cs := #[.bool true, .string a0_1, .bool false, .string a0_3]) (t := 26) ?hr ?_; (case hd => rfl); (case hg => rfl); (case hr => first | (go_simp; done) | (go_simp; rfl)); intro gb108 hg w12 hbox hb; have n0_ := Aside0.mk (below_step (by repeat (first | (with_reducible first | exact HB.out | apply below_alloc | apply pw_below_drewN | apply below_drew1) | exact HB.out)) hb); have n1_ := Aside0.mk (hbox); have n2_ := Aside0.mk ((by rw [hg]; exact (below_size (by repeat (first | (with_reducible first | exact HB.out | apply below_alloc | apply pw_below_drewN | apply below_drew1) | exact HB.out))) : w.heap.size ≤ gb108)); have n3_ := Aside0.mk ((by rw [hg]; exact (below_size (by repeat (first | (with_reducible first | exact HB.out | apply below_alloc | apply pw_below_drewN | apply below_drew1) | exact HB.out))) : w.heap.size ≤ gb108)); clear HB; have HB := n0_; have BK108 := n1_; have GW108 := n2_; have GE108 := n3_; clear n0_ n1_ n2_ n3_; clear hb hbox hg; have hcz13_0 : w12.cell? ⟨gb108, 0, none⟩ = some (.bool true) := (blk_cell BK108.out 0).trans rfl; have hcz13_1 : w12.cell? ⟨gb108, 1, none⟩ = some (.string a0_1) := (blk_cell BK108.out 1).trans rfl; have hcz13_2 : w12.cell? ⟨gb108, 2, none⟩ = some (.bool false) := (blk_cell BK108.out 2).trans rfl; have hcz13_3 : w12.cell? ⟨gb108, 3, none⟩ = some (.string a0_3) := (blk_cell BK108.out 3).trans rfl; have hfz13_0 := blk_frozen BK108.out 0; have hfz13_1 := blk_frozen BK108.out 1; have hfz13_2 := blk_frozen BK108.out 2; have hfz13_3 := blk_frozen BK108.out 3) | ((with_reducible refine gate_callee (f := 21) rfl ?_); refine goesL_ (some 5) rfl rfl Tryz.func21 (by kernel_rfl) rfl #[.agg #[.bool false, .string a0_3]] rfl (by (try simp only [List.map_toArray, List.map_cons, List.map_nil]); first | done | rfl | (simp only [List.length_drop, List.length_take]; rfl)) ?_; (with_reducible refine (spec_IntOK.calls k false a0_3 true _ A2.out).mono ?_); rintro e w14 ⟨rfl, hb⟩; refine ⟨_, rfl, ?_⟩; have n0_ := Aside0.mk (blk_below (g := gb108) (o := .cells #[.bool true, .string a0_1, .bool false, .string a0_3] 26 (0, 0)) (by (with_reducible repeat (first | refine blk_drewN ?_ _ | refine blk_drew ?_ | refine blk_alloc ?_ _)); exact BK108.out) hb); have n1_ := Aside0.mk (below_step (by repeat (first | (with_reducible first | exact HB.out | apply below_alloc | apply pw_below_drewN | apply below_drew1 | refine below_set ?_ GE108.out) | exact HB.out)) hb); clear BK108; clear HB; have BK108 := n0_; have HB := n1_; clear n0_ n1_; (try clear hb); (try clear hb2); (try clear hk); (try clear hi); have hcz15_0 : w14.cell? ⟨gb108, 0, none⟩ = some (.bool true) := (blk_cell BK108.out 0).trans rfl; have hcz15_1 : w14.cell? ⟨gb108, 1, none⟩ = some (.string a0_1) := (blk_cell BK108.out 1).trans rfl; have hcz15_2 : w14.cell? ⟨gb108, 2, none⟩ = some (.bool false) := (blk_cell BK108.out 2).trans rfl; have hcz15_3 : w14.cell? ⟨gb108, 3, none⟩ = some (.string a0_3) := (blk_cell BK108.out 3).trans rfl; have hfz15_0 := blk_frozen BK108.out 0; have hfz15_1 := blk_frozen BK108.out 1; have hfz15_2 := blk_frozen BK108.out 2; have hfz15_3 := blk_frozen BK108.out 3) | (go_at_call 23; (with_reducible refine (spec_Ascii.calls k a0_1 true _ A9.out).mono ?_); rintro e w' ⟨rfl, ⟨nd, rfl⟩⟩))
          go_ret
          exact ⟨by first | rfl | (simp [errW_none, errW_some] <;> rfl) | (simp [*, errW_none, errW_some] <;> rfl) | (simp [bne_nil_]; done), by repeat (first | (with_reducible first | exact HB.out | apply below_alloc | apply pw_below_drewN | apply below_drew1 | refine below_set ?_ GE108.out) | exact HB.out)⟩
        · replace c11 := Bool.eq_false_iff.mpr c11
          subst c11
          have H1 : (some true) = some r := by rw [if_neg (show ¬ (false = true) by decide)] at H; exact H
          clear H
          have H := H1
          clear H1
          obtain rfl := Option.some.inj H
          go_enter Tryz.func24, Tryz.ntmps24
          go_wp2_with (first | ((with_reducible refine gate_dst (N := 1) rfl ?_); refine box_event ?hg (N := 1) ?hd (cs := #[.bool false, .string a0_1, .bool false, .string a0_3]) (t := 26) ?hr ?_; (case hd => rfl); (case hg => rfl); (case hr => first | (go_simp; done) | (go_simp; rfl)); intro gb108 hg w16 hbox hb; have n0_ := Aside0.mk (below_step (by repeat (first | (with_reducible first | exact HB.out | apply below_alloc | apply pw_below_drewN | apply below_drew1) | exact HB.out)) hb); have n1_ := Aside0.mk (hbox); have n2_ := Aside0.mk ((by rw [hg]; exact (below_size (by repeat (first | (with_reducible first | exact HB.out | apply below_alloc | apply pw_below_drewN | apply below_drew1) | exact HB.out))) : w.heap.size ≤ gb108)); have n3_ := Aside0.mk ((by rw [hg]; exact (below_size (by repeat (first | (with_reducible first | exact HB.out | apply below_alloc | apply pw_below_drewN | apply below_drew1) | exact HB.out))) : w.heap.size ≤ gb108)); clear HB; have HB := n0_; have BK108 := n1_; have GW108 := n2_; have GE108 := n3_; clear n0_ n1_ n2_ n3_; clear hb hbox hg; have hcz17_0 : w16.cell? ⟨gb108, 0, none⟩ = some (.bool false) := (blk_cell BK108.out 0).trans rfl; have hcz17_1 : w16.cell? ⟨gb108, 1, none⟩ = some (.string a0_1) := (blk_cell BK108.out 1).trans rfl; have hcz17_2 : w16.cell? ⟨gb108, 2, none⟩ = some (.bool false) := (blk_cell BK108.out 2).trans rfl; have hcz17_3 : w16.cell? ⟨gb108, 3, none⟩ = some (.string a0_3) := (blk_cell BK108.out 3).trans rfl; have hfz17_0 := blk_frozen BK108.out 0; have hfz17_1 := blk_frozen BK108.out 1; have hfz17_2 := blk_frozen BK108.out 2; have hfz17_3 := blk_frozen BK108.out 3) | ((with_reducible refine gate_callee (f := 21) rfl ?_); refine goesL_ (some 5) rfl rfl Tryz.func21 (by kernel_rfl) rfl #[.agg #[.bool false, .string a0_3]] rfl (by (try simp only [List.map_toArray, List.map_cons, List.map_nil]); first | done | rfl | (simp only [List.length_drop, List.length_take]; rfl)) ?_; (with_reducible refine (spec_IntOK.calls k false a0_3 true _ A2.out).mono ?_); rintro e w18 ⟨rfl, hb⟩; refine ⟨_, rfl, ?_⟩; have n0_ := Aside0.mk (blk_below (g := gb108) (o := .cells #[.bool false, .string a0_1, .bool false, .string a0_3] 26 (0, 0)) (by (with_reducible repeat (first | refine blk_drewN ?_ _ | refine blk_drew ?_ | refine blk_alloc ?_ _)); exact BK108.out) hb); have n1_ := Aside0.mk (below_step (by repeat (first | (with_reducible first | exact HB.out | apply below_alloc | apply pw_below_drewN | apply below_drew1 | refine below_set ?_ GE108.out) | exact HB.out)) hb); clear BK108; clear HB; have BK108 := n0_; have HB := n1_; clear n0_ n1_; (try clear hb); (try clear hb2); (try clear hk); (try clear hi); have hcz19_0 : w18.cell? ⟨gb108, 0, none⟩ = some (.bool false) := (blk_cell BK108.out 0).trans rfl; have hcz19_1 : w18.cell? ⟨gb108, 1, none⟩ = some (.string a0_1) := (blk_cell BK108.out 1).trans rfl; have hcz19_2 : w18.cell? ⟨gb108, 2, none⟩ = some (.bool false) := (blk_cell BK108.out 2).trans rfl; have hcz19_3 : w18.cell? ⟨gb108, 3, none⟩ = some (.string a0_3) := (blk_cell BK108.out 3).trans rfl; have hfz19_0 := blk_frozen BK108.out 0; have hfz19_1 := blk_frozen BK108.out 1; have hfz19_2 := blk_frozen BK108.out 2; have hfz19_3 := blk_frozen BK108.out 3) | (go_at_call 23; (with_reducible refine (spec_Ascii.calls k a0_1 true _ A9.out).mono ?_); rintro e w' ⟨rfl, ⟨nd, rfl⟩⟩))
          go_ret
          exact ⟨by first | rfl | (simp [errW_none, errW_some] <;> rfl) | (simp [*, errW_none, errW_some] <;> rfl) | (simp [bne_nil_]; done), by repeat (first | (with_reducible first | exact HB.out | apply below_alloc | apply pw_below_drewN | apply below_drew1 | refine below_set ?_ GE108.out) | exact HB.out)⟩
      · replace c10 := Bool.eq_false_iff.mpr c10
        subst c10
        have H1 : (some false) = some r := by rw [if_neg (show ¬ (false = true) by decide)] at H; exact H
        clear H
        have H := H1
        clear H1
        obtain rfl := Option.some.inj H
        go_enter Tryz.func24, Tryz.ntmps24
        go_wp2_with (first | ((with_reducible refine gate_dst (N := 1) rfl ?_); refine box_event ?hg (N := 1) ?hd (cs := #[.bool a0_0, .string a0_1, .bool false, .string a0_3]) (t := 26) ?hr ?_; (case hd => rfl); (case hg => rfl); (case hr => first | (go_simp; done) | (go_simp; rfl)); intro gb108 hg w20 hbox hb; have n0_ := Aside0.mk (below_step (by repeat (first | (with_reducible first | exact HB.out | apply below_alloc | apply pw_below_drewN | apply below_drew1) | exact HB.out)) hb); have n1_ := Aside0.mk (hbox); have n2_ := Aside0.mk ((by rw [hg]; exact (below_size (by repeat (first | (with_reducible first | exact HB.out | apply below_alloc | apply pw_below_drewN | apply below_drew1) | exact HB.out))) : w.heap.size ≤ gb108)); have n3_ := Aside0.mk ((by rw [hg]; exact (below_size (by repeat (first | (with_reducible first | exact HB.out | apply below_alloc | apply pw_below_drewN | apply below_drew1) | exact HB.out))) : w.heap.size ≤ gb108)); clear HB; have HB := n0_; have BK108 := n1_; have GW108 := n2_; have GE108 := n3_; clear n0_ n1_ n2_ n3_; clear hb hbox hg; have hcz21_0 : w20.cell? ⟨gb108, 0, none⟩ = some (.bool a0_0) := (blk_cell BK108.out 0).trans rfl; have hcz21_1 : w20.cell? ⟨gb108, 1, none⟩ = some (.string a0_1) := (blk_cell BK108.out 1).trans rfl; have hcz21_2 : w20.cell? ⟨gb108, 2, none⟩ = some (.bool false) := (blk_cell BK108.out 2).trans rfl; have hcz21_3 : w20.cell? ⟨gb108, 3, none⟩ = some (.string a0_3) := (blk_cell BK108.out 3).trans rfl; have hfz21_0 := blk_frozen BK108.out 0; have hfz21_1 := blk_frozen BK108.out 1; have hfz21_2 := blk_frozen BK108.out 2; have hfz21_3 := blk_frozen BK108.out 3) | ((with_reducible refine gate_callee (f := 21) rfl ?_); refine goesL_ (some 5) rfl rfl Tryz.func21 (by kernel_rfl) rfl #[.agg #[.bool false, .string a0_3]] rfl (by (try simp only [List.map_toArray, List.map_cons, List.map_nil]); first | done | rfl | (simp only [List.length_drop, List.length_take]; rfl)) ?_; (with_reducible refine (spec_IntOK.calls k false a0_3 true _ A2.out).mono ?_); rintro e w22 ⟨rfl, hb⟩; refine ⟨_, rfl, ?_⟩; have n0_ := Aside0.mk (blk_below (g := gb108) (o := .cells #[.bool a0_0, .string a0_1, .bool false, .string a0_3] 26 (0, 0)) (by (with_reducible repeat (first | refine blk_drewN ?_ _ | refine blk_drew ?_ | refine blk_alloc ?_ _)); exact BK108.out) hb); have n1_ := Aside0.mk (below_step (by repeat (first | (with_reducible first | exact HB.out | apply below_alloc | apply pw_below_drewN | apply below_drew1 | refine below_set ?_ GE108.out) | exact HB.out)) hb); clear BK108; clear HB; have BK108 := n0_; have HB := n1_; clear n0_ n1_; (try clear hb); (try clear hb2); (try clear hk); (try clear hi); have hcz23_0 : w22.cell? ⟨gb108, 0, none⟩ = some (.bool a0_0) := (blk_cell BK108.out 0).trans rfl; have hcz23_1 : w22.cell? ⟨gb108, 1, none⟩ = some (.string a0_1) := (blk_cell BK108.out 1).trans rfl; have hcz23_2 : w22.cell? ⟨gb108, 2, none⟩ = some (.bool false) := (blk_cell BK108.out 2).trans rfl; have hcz23_3 : w22.cell? ⟨gb108, 3, none⟩ = some (.string a0_3) := (blk_cell BK108.out 3).trans rfl; have hfz23_0 := blk_frozen BK108.out 0; have hfz23_1 := blk_frozen BK108.out 1; have hfz23_2 := blk_frozen BK108.out 2; have hfz23_3 := blk_frozen BK108.out 3) | (go_at_call 23; (with_reducible refine (spec_Ascii.calls k a0_1 false _ A9.out).mono ?_); rintro e w' ⟨rfl, ⟨nd, rfl⟩⟩))
        go_ret
        exact ⟨by first | rfl | (simp [errW_none, errW_some] <;> rfl) | (simp [*, errW_none, errW_some] <;> rfl) | (simp [bne_nil_]; done), by repeat (first | (with_reducible first | exact HB.out | apply below_alloc | apply pw_below_drewN | apply below_drew1 | refine below_set ?_ GE108.out) | exact HB.out)⟩
  · replace c3 := Bool.eq_false_iff.mpr c3
    subst c3
    have H1 : (some false) = some r := by rw [if_neg (show ¬ (false = true) by decide)] at H; exact H
    clear H
    have H := H1
    clear H1
    obtain rfl := Option.some.inj H
    go_enter Tryz.func24, Tryz.ntmps24
    go_wp2_with (first | ((with_reducible refine gate_dst (N := 1) rfl ?_); refine box_event ?hg (N := 1) ?hd (cs := #[.bool a0_0, .string a0_1, .bool a0_2, .string a0_3]) (t := 26) ?hr ?_; (case hd => rfl); (case hg => rfl); (case hr => first | (go_simp; done) | (go_simp; rfl)); intro gb108 hg w24 hbox hb; have n0_ := Aside0.mk (below_step (by repeat (first | (with_reducible first | exact HB.out | apply below_alloc | apply pw_below_drewN | apply below_drew1) | exact HB.out)) hb); have n1_ := Aside0.mk (hbox); have n2_ := Aside0.mk ((by rw [hg]; exact (below_size (by repeat (first | (with_reducible first | exact HB.out | apply below_alloc | apply pw_below_drewN | apply below_drew1) | exact HB.out))) : w.heap.size ≤ gb108)); have n3_ := Aside0.mk ((by rw [hg]; exact (below_size (by repeat (first | (with_reducible first | exact HB.out | apply below_alloc | apply pw_below_drewN | apply below_drew1) | exact HB.out))) : w.heap.size ≤ gb108)); clear HB; have HB := n0_; have BK108 := n1_; have GW108 := n2_; have GE108 := n3_; clear n0_ n1_ n2_ n3_; clear hb hbox hg; have hcz25_0 : w24.cell? ⟨gb108, 0, none⟩ = some (.bool a0_0) := (blk_cell BK108.out 0).trans rfl; have hcz25_1 : w24.cell? ⟨gb108, 1, none⟩ = some (.string a0_1) := (blk_cell BK108.out 1).trans rfl; have hcz25_2 : w24.cell? ⟨gb108, 2, none⟩ = some (.bool a0_2) := (blk_cell BK108.out 2).trans rfl; have hcz25_3 : w24.cell? ⟨gb108, 3, none⟩ = some (.string a0_3) := (blk_cell BK108.out 3).trans rfl; have hfz25_0 := blk_frozen BK108.out 0; have hfz25_1 := blk_frozen BK108.out 1; have hfz25_2 := blk_frozen BK108.out 2; have hfz25_3 := blk_frozen BK108.out 3) | ((with_reducible refine gate_callee (f := 21) rfl ?_); refine goesL_ (some 5) rfl rfl Tryz.func21 (by kernel_rfl) rfl #[.agg #[.bool a0_2, .string a0_3]] rfl (by (try simp only [List.map_toArray, List.map_cons, List.map_nil]); first | done | rfl | (simp only [List.length_drop, List.length_take]; rfl)) ?_; (with_reducible refine (spec_IntOK.calls k a0_2 a0_3 false _ A2.out).mono ?_); rintro e w26 ⟨rfl, hb⟩; refine ⟨_, rfl, ?_⟩; have n0_ := Aside0.mk (blk_below (g := gb108) (o := .cells #[.bool a0_0, .string a0_1, .bool a0_2, .string a0_3] 26 (0, 0)) (by (with_reducible repeat (first | refine blk_drewN ?_ _ | refine blk_drew ?_ | refine blk_alloc ?_ _)); exact BK108.out) hb); have n1_ := Aside0.mk (below_step (by repeat (first | (with_reducible first | exact HB.out | apply below_alloc | apply pw_below_drewN | apply below_drew1 | refine below_set ?_ GE108.out) | exact HB.out)) hb); clear BK108; clear HB; have BK108 := n0_; have HB := n1_; clear n0_ n1_; (try clear hb); (try clear hb2); (try clear hk); (try clear hi)))
    go_ret
    exact ⟨by first | rfl | (simp [errW_none, errW_some] <;> rfl) | (simp [*, errW_none, errW_some] <;> rfl) | (simp [bne_nil_]; done), by repeat (first | (with_reducible first | exact HB.out | apply below_alloc | apply pw_below_drewN | apply below_drew1 | refine below_set ?_ GE108.out) | exact HB.out)⟩

/-! ### spec_isDigit: function 38 -/
def spec_isDigit.f (a0 : Int) : Option (Bool) := if a0 ≥ 48 then (some (decide (a0 ≤ 57))) else (some false)
set_option maxHeartbeats 8000000 in
set_option maxRecDepth 100000 in
theorem spec_isDigit.calls (a0 : Int) (r : Bool) (w : World) (h : spec_isDigit.f a0 = some r) :
    Calls Tryz.prog 38 #[.int .u8 a0] w fun e w' => e = .returned (.bool r) ∧ Drawn0 w w' := by
  have H : (if a0 ≥ 48 then (some (decide (a0 ≤ 57))) else (some false)) = some r := h
  clear h
  by_cases c2 : a0 ≥ 48
  · rw [if_pos c2] at H
    have c2b0 : decide (48 ≤ a0) = true := decide_eq_true c2
    clear c2
    obtain rfl := Option.some.inj H
    go_enter Tryz.func38, Tryz.ntmps38
    go_wp2
    go_ret
    exact ⟨by first | rfl | (simp; done) | (simp [*]; done) | (simp [bne_nil_]; done), by repeat (first | exact Drawn0.refl _ | apply Drawn0.step)⟩
  · rw [if_neg c2] at H
    have c2b0 : decide (48 ≤ a0) = false := decide_eq_false c2
    clear c2
    obtain rfl := Option.some.inj H
    go_enter Tryz.func38, Tryz.ntmps38
    go_wp2
    go_ret
    exact ⟨by first | rfl | (simp; done) | (simp [*]; done) | (simp [bne_nil_]; done), by repeat (first | exact Drawn0.refl _ | apply Drawn0.step)⟩

/-! ### spec_allDigits: function 32 -/
def spec_allDigits.l0 : Nat → ByteArray → Int → Option (Bool)
  | 0, _, _ => none
  | k + 1, x0, x3 => if x3 < (x0.size : Int) then (if 0 ≤ x3 then ((spec_isDigit.f (bt x0 x3)).bind fun t111 => (if t111 = true then (spec_allDigits.l0 k x0 (wrap64 (x3 + 1))) else (some false))) else (none)) else (some (decide ((x0.size : Int) > 0)))
def spec_allDigits.f (k : Nat) (a0 : ByteArray) : Option (Bool) := spec_allDigits.l0 k a0 0
theorem spec_allDigits.mono_l : ∀ k, (∀ y0 y1, LeO (spec_allDigits.l0 k y0 y1) (spec_allDigits.l0 (k + 1) y0 y1))
  | 0 => fun _ _ r h => by simp [spec_allDigits.l0] at h
  | k + 1 => by
    have ih0 := spec_allDigits.mono_l k
    · intro y0 y1
      unfold spec_allDigits.l0
      repeat' first
      | (with_reducible exact ih0 _ _)
      | (with_reducible exact LeO.refl _)
      | (with_reducible exact LeO.none _)
      | (with_reducible refine LeO.ite ?_ ?_)
      | (with_reducible refine LeO.bind ?_ (fun _ => ?_))
      | exact ih0 _ _
      | exact LeO.none _
      | refine LeO.ite ?_ ?_
      | refine LeO.bind ?_ (fun _ => ?_)
theorem spec_allDigits.mono : ∀ a0 k, LeO (spec_allDigits.f k a0) (spec_allDigits.f (k + 1) a0) := by
  intro a0 k
  have ih0 := spec_allDigits.mono_l k
  unfold spec_allDigits.f
  repeat' first
      | (with_reducible exact ih0 _ _)
      | (with_reducible exact LeO.refl _)
      | (with_reducible exact LeO.none _)
      | (with_reducible refine LeO.ite ?_ ?_)
      | (with_reducible refine LeO.bind ?_ (fun _ => ?_))
      | exact ih0 _ _
      | exact LeO.none _
      | refine LeO.ite ?_ ?_
      | refine LeO.bind ?_ (fun _ => ?_)
set_option maxHeartbeats 8000000 in
set_option maxRecDepth 100000 in
theorem spec_allDigits.calls (k : Nat) (a0 : ByteArray) (r : Bool) (w : World) (h : spec_allDigits.f k a0 = some r) :
    Calls Tryz.prog 32 #[.string a0] w fun e w' => e = .returned (.bool r) ∧ Drawn0 w w' := by
  have H : (spec_allDigits.l0 k a0 0) = some r := h
  clear h
  have H' := Aside0.mk H
  clear H
  go_enter Tryz.func32, Tryz.ntmps32
  go_wp2
  go_loopg [3] k (fun kq v3 w' => ∃ (x3_1 : Int), v3 = .int .i64 x3_1 ∧ Aside0 (spec_allDigits.l0 kq a0 x3_1 = some r) ∧ Aside0 (kq ≤ k) ∧ Drawn0 w w')
  case atStart => exact ⟨(0), (by first | rfl | (simp; done) | (simp [*]; done) | (simp [bne_nil_]; done)), H', ⟨Nat.le_refl _⟩, by repeat (first | exact Drawn0.refl _ | apply Drawn0.step)⟩
  case round =>
    clear H'
    obtain ⟨x3_1, rfl, HA, HK1, ⟨m1, rfl⟩⟩ := hrel
    cases gk with
    | zero => exact absurd HA.out (by simp [spec_allDigits.l0])
    | succ k1 =>
      have H := HA.out
      clear HA
      simp only [spec_allDigits.l0] at H
      by_cases c2 : x3_1 < (a0.size : Int)
      · rw [if_pos c2] at H
        have c2b0 : decide (x3_1 < (a0.size : Int)) = true := decide_eq_true c2
        clear c2
        by_cases c3 : 0 ≤ x3_1
        · rw [if_pos c3] at H
          have c3b0 : decide (0 ≤ x3_1) = true := decide_eq_true c3
          clear c3
          replace H := Option.bind_eq_some_iff.mp H
          obtain ⟨t111, A50, H⟩ := H
          replace H : (if t111 = true then (spec_allDigits.l0 k1 a0 (wrap64 (x3_1 + 1))) else (some false)) = some r := H
          have A5 := Aside0.mk A50
          clear A50
          by_cases c6 : t111 = true
          · subst c6
            have H1 : (spec_allDigits.l0 k1 a0 (wrap64 (x3_1 + 1))) = some r := by rw [if_pos rfl] at H; exact H
            clear H
            have H := H1
            clear H1
            have H' := Aside0.mk H
            clear H
            have p4 : 0 ≤ (x3_1 : Int) := of_decide_eq_true (by first | (with_reducible assumption) | assumption)
            have q4 : x3_1 < (a0.size : Int) := of_decide_eq_true (by first | (with_reducible assumption) | assumption)
            have hx4 := bt_at a0 x3_1
            replace p4 := eq_true p4
            replace q4 := eq_true q4
            go_wp2_with (first | ((with_reducible refine gate_callee (f := 38) rfl ?_); refine goesL_ (some 13) rfl rfl Tryz.func38 (by kernel_rfl) rfl #[.int .u8 (bt a0 x3_1)] rfl (by (try simp only [List.map_toArray, List.map_cons, List.map_nil]); first | done | rfl | (simp only [List.length_drop, List.length_take]; rfl)) ?_; (with_reducible refine (spec_isDigit.calls (bt a0 x3_1) true _ A5.out).mono ?_); rintro e w' ⟨rfl, ⟨nd, rfl⟩⟩; refine ⟨_, rfl, ?_⟩))
            go_roundg k1
            case measure => have := HK1.out; omega
            case rel => exact ⟨(wrap64 (x3_1 + 1)), (by first | rfl | (simp; done) | (simp [*]; done) | (simp [bne_nil_]; done)), H', ⟨by have := HK1.out; omega⟩, by repeat (first | exact Drawn0.refl _ | apply Drawn0.step)⟩
          · replace c6 := Bool.eq_false_iff.mpr c6
            subst c6
            have H1 : (some false) = some r := by rw [if_neg (show ¬ (false = true) by decide)] at H; exact H
            clear H
            have H := H1
            clear H1
            obtain rfl := Option.some.inj H
            have p4 : 0 ≤ (x3_1 : Int) := of_decide_eq_true (by first | (with_reducible assumption) | assumption)
            have q4 : x3_1 < (a0.size : Int) := of_decide_eq_true (by first | (with_reducible assumption) | assumption)
            have hx4 := bt_at a0 x3_1
            replace p4 := eq_true p4
            replace q4 := eq_true q4
            go_wp2_with (first | ((with_reducible refine gate_callee (f := 38) rfl ?_); refine goesL_ (some 13) rfl rfl Tryz.func38 (by kernel_rfl) rfl #[.int .u8 (bt a0 x3_1)] rfl (by (try simp only [List.map_toArray, List.map_cons, List.map_nil]); first | done | rfl | (simp only [List.length_drop, List.length_take]; rfl)) ?_; (with_reducible refine (spec_isDigit.calls (bt a0 x3_1) false _ A5.out).mono ?_); rintro e w' ⟨rfl, ⟨nd, rfl⟩⟩; refine ⟨_, rfl, ?_⟩))
            go_ret
            exact ⟨by first | rfl | (simp; done) | (simp [*]; done) | (simp [bne_nil_]; done), by repeat (first | exact Drawn0.refl _ | apply Drawn0.step)⟩
        · rw [if_neg c3] at H
          exact absurd H (by simp)
      · rw [if_neg c2] at H
        have c2b0 : decide (x3_1 < (a0.size : Int)) = false := decide_eq_false c2
        clear c2
        obtain rfl := Option.some.inj H
        go_wp2
        go_ret
        exact ⟨by first | rfl | (simp; done) | (simp [*]; done) | (simp [bne_nil_]; done), by repeat (first | exact Drawn0.refl _ | apply Drawn0.step)⟩

/-! ### spec_IdentifiersKnown: function 25 -/
def spec_IdentifiersKnown.l0 : Nat → List ByteArray → Int → Option (Bool)
  | 0, _, _ => none
  | k + 1, x0, x3 => if x3 < (x0.length : Int) then (if 0 ≤ x3 then (if ((rdOf ByteArray.empty x0 x3).size : Int) > 1 then (if 0 < ((rdOf ByteArray.empty x0 x3).size : Int) then (if (bt (rdOf ByteArray.empty x0 x3) 0) = 45 then (if 1 ≤ ((rdOf ByteArray.empty x0 x3).size : Int) then ((spec_allDigits.f k ((rdOf ByteArray.empty x0 x3).extract 1 (rdOf ByteArray.empty x0 x3).size)).bind fun t113 => (if t113 = true then (some false) else (spec_IdentifiersKnown.l0 k x0 (wrap64 (x3 + 1))))) else (none)) else (if (bt (rdOf ByteArray.empty x0 x3) 0) = 43 then (if 1 ≤ ((rdOf ByteArray.empty x0 x3).size : Int) then ((spec_allDigits.f k ((rdOf ByteArray.empty x0 x3).extract 1 (rdOf ByteArray.empty x0 x3).size)).bind fun t114 => (if t114 = true then (some false) else (spec_IdentifiersKnown.l0 k x0 (wrap64 (x3 + 1))))) else (none)) else (spec_IdentifiersKnown.l0 k x0 (wrap64 (x3 + 1))))) else (none)) else (spec_IdentifiersKnown.l0 k x0 (wrap64 (x3 + 1)))) else (none)) else (some true)
def spec_IdentifiersKnown.f (k : Nat) (l0 : List ByteArray) : Option (Bool) := spec_IdentifiersKnown.l0 k l0 0
theorem spec_IdentifiersKnown.mono_l : ∀ k, (∀ y0 y1, LeO (spec_IdentifiersKnown.l0 k y0 y1) (spec_IdentifiersKnown.l0 (k + 1) y0 y1))
  | 0 => fun _ _ r h => by simp [spec_IdentifiersKnown.l0] at h
  | k + 1 => by
    have ih0 := spec_IdentifiersKnown.mono_l k
    · intro y0 y1
      unfold spec_IdentifiersKnown.l0
      repeat' first
      | (with_reducible exact ih0 _ _)
      | (with_reducible exact spec_allDigits.mono _ _)
      | (with_reducible exact LeO.refl _)
      | (with_reducible exact LeO.none _)
      | (with_reducible refine LeO.ite ?_ ?_)
      | (with_reducible refine LeO.bind ?_ (fun _ => ?_))
      | exact ih0 _ _
      | exact spec_allDigits.mono _ _
      | exact LeO.none _
      | refine LeO.ite ?_ ?_
      | refine LeO.bind ?_ (fun _ => ?_)
theorem spec_IdentifiersKnown.mono : ∀ a0 k, LeO (spec_IdentifiersKnown.f k a0) (spec_IdentifiersKnown.f (k + 1) a0) := by
  intro a0 k
  have ih0 := spec_IdentifiersKnown.mono_l k
  unfold spec_IdentifiersKnown.f
  repeat' first
      | (with_reducible exact ih0 _ _)
      | (with_reducible exact spec_allDigits.mono _ _)
      | (with_reducible exact LeO.refl _)
      | (with_reducible exact LeO.none _)
      | (with_reducible refine LeO.ite ?_ ?_)
      | (with_reducible refine LeO.bind ?_ (fun _ => ?_))
      | exact ih0 _ _
      | exact spec_allDigits.mono _ _
      | exact LeO.none _
      | refine LeO.ite ?_ ?_
      | refine LeO.bind ?_ (fun _ => ?_)
set_option maxHeartbeats 8000000 in
set_option maxRecDepth 100000 in
theorem spec_IdentifiersKnown.calls (k : Nat) (A0 : Option Addr) (c0 : Nat) (l0 : List ByteArray) (r : Bool) (w : World) (hr0 : Kd.C Kd.string w A0 l0.length l0) (hc0 : l0.length ≤ c0) (h : spec_IdentifiersKnown.f k l0 = some r) :
    Calls Tryz.prog 25 #[.slice A0 l0.length c0] w fun e w' => e = .returned (.bool r) ∧ Drawn0 w w' := by
  have HR0 := Aside0.mk hr0
  have HC0 := Aside0.mk hc0
  clear hr0 hc0
  have H : (spec_IdentifiersKnown.l0 k l0 0) = some r := h
  clear h
  have H' := Aside0.mk H
  clear H
  go_enter Tryz.func25, Tryz.ntmps25
  go_wp2
  go_loopg [3] k (fun kq v3 w' => ∃ (x3_1 : Int), v3 = .int .i64 x3_1 ∧ Aside0 (spec_IdentifiersKnown.l0 kq l0 x3_1 = some r) ∧ Aside0 (kq ≤ k) ∧ Drawn0 w w')
  case atStart => exact ⟨(0), (by first | rfl | (simp; done) | (simp [*]; done) | (simp [bne_nil_]; done)), H', ⟨Nat.le_refl _⟩, by repeat (first | exact Drawn0.refl _ | apply Drawn0.step)⟩
  case round =>
    clear H'
    obtain ⟨x3_1, rfl, HA, HK1, ⟨m1, rfl⟩⟩ := hrel
    cases gk with
    | zero => exact absurd HA.out (by simp [spec_IdentifiersKnown.l0])
    | succ k1 =>
      have H := HA.out
      clear HA
      simp only [spec_IdentifiersKnown.l0] at H
      by_cases c2 : x3_1 < (l0.length : Int)
      · rw [if_pos c2] at H
        have c2b0 : decide (x3_1 < (l0.length : Int)) = true := decide_eq_true c2
        clear c2
        by_cases c3 : 0 ≤ x3_1
        · rw [if_pos c3] at H
          have c3b0 : decide (0 ≤ x3_1) = true := decide_eq_true c3
          clear c3
          by_cases c4 : ((rdOf ByteArray.empty l0 x3_1).size : Int) > 1
          · rw [if_pos c4] at H
            have c4b0 : decide (1 < ((rdOf ByteArray.empty l0 x3_1).size : Int)) = true := decide_eq_true c4
            have c4b1 : decide (1 < (rdOf ByteArray.empty l0 x3_1).size) = true := decide_eq_true (by omega)
            clear c4
            by_cases c5 : 0 < ((rdOf ByteArray.empty l0 x3_1).size : Int)
            · rw [if_pos c5] at H
              have c5b0 : decide (0 < ((rdOf ByteArray.empty l0 x3_1).size : Int)) = true := decide_eq_true c5
              have c5b1 : decide (0 < (rdOf ByteArray.empty l0 x3_1).size) = true := decide_eq_true (by omega)
              clear c5
              by_cases c7 : (bt (rdOf ByteArray.empty l0 x3_1) 0) = 45
              · rw [if_pos c7] at H
                have c7b0 : ((bt (rdOf ByteArray.empty l0 x3_1) 0) == 45) = true := beq_iff_eq.mpr c7
                have c7b1 : ((bt (rdOf ByteArray.empty l0 x3_1) 0) != 45) = false := bne_eq_false_iff_eq.mpr c7
                clear c7
                by_cases c8 : 1 ≤ ((rdOf ByteArray.empty l0 x3_1).size : Int)
                · rw [if_pos c8] at H
                  have c8b0 := eq_true c8
                  have c8b1 : decide (1 ≤ ((rdOf ByteArray.empty l0 x3_1).size : Int)) = true := decide_eq_true c8
                  clear c8
                  replace H := Option.bind_eq_some_iff.mp H
                  obtain ⟨t113, A90, H⟩ := H
                  replace H : (if t113 = true then (some false) else (spec_IdentifiersKnown.l0 k1 l0 (wrap64 (x3_1 + 1)))) = some r := H
                  have A9 := Aside0.mk A90
                  clear A90
                  by_cases c10 : t113 = true
                  · subst c10
                    have H1 : (some false) = some r := by rw [if_pos rfl] at H; exact H
                    clear H
                    have H := H1
                    clear H1
                    obtain rfl := Option.some.inj H
                    have p112 : 0 ≤ (x3_1 : Int) := of_decide_eq_true (by first | (with_reducible assumption) | assumption)
                    have q112 : x3_1 < (l0.length : Int) := of_decide_eq_true (by first | (with_reducible assumption) | assumption)
                    obtain ⟨ad112, e112, hx112_0⟩ := Kd.at_string HR0.out x3_1 p112 q112
                    cases e112
                    replace p112 := eq_true p112
                    replace q112 := eq_true q112
                    have p6 : 0 ≤ (0 : Int) := (by omega)
                    have q6 : 0 < (rdOf ByteArray.empty l0 x3_1).size := (by have : (0 : Int) < ((rdOf ByteArray.empty l0 x3_1).size : Int) := of_decide_eq_true (by first | (with_reducible assumption) | assumption); omega)
                    have hx6 : ∀ h : 0 < (rdOf ByteArray.empty l0 x3_1).size, (((rdOf ByteArray.empty l0 x3_1)[0]'h).toNat : Int) = bt (rdOf ByteArray.empty l0 x3_1) 0 := bt_at (rdOf ByteArray.empty l0 x3_1) 0
                    clear p6
                    have qi6 : (0 < ((rdOf ByteArray.empty l0 x3_1).size : Int)) = True := eq_true (of_decide_eq_true (by first | (with_reducible assumption) | assumption))
                    replace q6 := eq_true q6
                    go_wp2_with (first | (go_at_call 32; (with_reducible refine (spec_allDigits.calls k1 ((rdOf ByteArray.empty l0 x3_1).extract 1 (rdOf ByteArray.empty l0 x3_1).size) true _ A9.out).mono ?_); rintro e w' ⟨rfl, ⟨nd, rfl⟩⟩))
                    go_ret
                    exact ⟨by first | rfl | (simp; done) | (simp [*]; done) | (simp [bne_nil_]; done), by repeat (first | exact Drawn0.refl _ | apply Drawn0.step)⟩
                  · replace c10 := Bool.eq_false_iff.mpr c10
                    subst c10
                    have H1 : (spec_IdentifiersKnown.l0 k1 l0 (wrap64 (x3_1 + 1))) = some r := by rw [if_neg (show ¬ (false = true) by decide)] at H; exact H
                    clear H
                    have H := H1
                    clear H1
                    have H' := Aside0.mk H
                    clear H
                    have p112 : 0 ≤ (x3_1 : Int) := of_decide_eq_true (by first | (with_reducible assumption) | assumption)
                    have q112 : x3_1 < (l0.length : Int) := of_decide_eq_true (by first | (with_reducible assumption) | assumption)
                    obtain ⟨ad112, e112, hx112_0⟩ := Kd.at_string HR0.out x3_1 p112 q112
                    cases e112
                    replace p112 := eq_true p112
                    replace q112 := eq_true q112
                    have p6 : 0 ≤ (0 : Int) := (by omega)
                    have q6 : 0 < (rdOf ByteArray.empty l0 x3_1).size := (by have : (0 : Int) < ((rdOf ByteArray.empty l0 x3_1).size : Int) := of_decide_eq_true (by first | (with_reducible assumption) | assumption); omega)
                    have hx6 : ∀ h : 0 < (rdOf ByteArray.empty l0 x3_1).size, (((rdOf ByteArray.empty l0 x3_1)[0]'h).toNat : Int) = bt (rdOf ByteArray.empty l0 x3_1) 0 := bt_at (rdOf ByteArray.empty l0 x3_1) 0
                    clear p6
                    have qi6 : (0 < ((rdOf ByteArray.empty l0 x3_1).size : Int)) = True := eq_true (of_decide_eq_true (by first | (with_reducible assumption) | assumption))
                    replace q6 := eq_true q6
                    go_wp2_with (first | (go_at_call 32; (with_reducible refine (spec_allDigits.calls k1 ((rdOf ByteArray.empty l0 x3_1).extract 1 (rdOf ByteArray.empty l0 x3_1).size) false _ A9.out).mono ?_); rintro e w' ⟨rfl, ⟨nd, rfl⟩⟩))
                    go_roundg k1
                    case measure => have := HK1.out; omega
                    case rel => exact ⟨(wrap64 (x3_1 + 1)), (by first | rfl | (simp; done) | (simp [*]; done) | (simp [bne_nil_]; done)), H', ⟨by have := HK1.out; omega⟩, by repeat (first | exact Drawn0.refl _ | apply Drawn0.step)⟩
                · rw [if_neg c8] at H
                  exact absurd H (by simp)
              · rw [if_neg c7] at H
                have c7b0 : ((bt (rdOf ByteArray.empty l0 x3_1) 0) == 45) = false := beq_eq_false_iff_ne.mpr c7
                have c7b1 : ((bt (rdOf ByteArray.empty l0 x3_1) 0) != 45) = true := bne_iff_ne.mpr c7
                by_cases c12 : (bt (rdOf ByteArray.empty l0 x3_1) 0) = 43
                · rw [if_pos c12] at H
                  have c12b0 : ((bt (rdOf ByteArray.empty l0 x3_1) 0) == 43) = true := beq_iff_eq.mpr c12
                  have c12b1 : ((bt (rdOf ByteArray.empty l0 x3_1) 0) != 43) = false := bne_eq_false_iff_eq.mpr c12
                  clear c12
                  by_cases c13 : 1 ≤ ((rdOf ByteArray.empty l0 x3_1).size : Int)
                  · rw [if_pos c13] at H
                    have c13b0 := eq_true c13
                    have c13b1 : decide (1 ≤ ((rdOf ByteArray.empty l0 x3_1).size : Int)) = true := decide_eq_true c13
                    clear c13
                    replace H := Option.bind_eq_some_iff.mp H
                    obtain ⟨t114, A140, H⟩ := H
                    replace H : (if t114 = true then (some false) else (spec_IdentifiersKnown.l0 k1 l0 (wrap64 (x3_1 + 1)))) = some r := H
                    have A14 := Aside0.mk A140
                    clear A140
                    by_cases c15 : t114 = true
                    · subst c15
                      have H1 : (some false) = some r := by rw [if_pos rfl] at H; exact H
                      clear H
                      have H := H1
                      clear H1
                      obtain rfl := Option.some.inj H
                      have p112 : 0 ≤ (x3_1 : Int) := of_decide_eq_true (by first | (with_reducible assumption) | assumption)
                      have q112 : x3_1 < (l0.length : Int) := of_decide_eq_true (by first | (with_reducible assumption) | assumption)
                      obtain ⟨ad112, e112, hx112_0⟩ := Kd.at_string HR0.out x3_1 p112 q112
                      cases e112
                      replace p112 := eq_true p112
                      replace q112 := eq_true q112
                      have p6 : 0 ≤ (0 : Int) := (by omega)
                      have q6 : 0 < (rdOf ByteArray.empty l0 x3_1).size := (by have : (0 : Int) < ((rdOf ByteArray.empty l0 x3_1).size : Int) := of_decide_eq_true (by first | (with_reducible assumption) | assumption); omega)
                      have hx6 : ∀ h : 0 < (rdOf ByteArray.empty l0 x3_1).size, (((rdOf ByteArray.empty l0 x3_1)[0]'h).toNat : Int) = bt (rdOf ByteArray.empty l0 x3_1) 0 := bt_at (rdOf ByteArray.empty l0 x3_1) 0
                      clear p6
                      have qi6 : (0 < ((rdOf ByteArray.empty l0 x3_1).size : Int)) = True := eq_true (of_decide_eq_true (by first | (with_reducible assumption) | assumption))
                      replace q6 := eq_true q6
                      have p11 : 0 ≤ (0 : Int) := (by omega)
                      have q11 : 0 < (rdOf ByteArray.empty l0 x3_1).size := (by have : (0 : Int) < ((rdOf ByteArray.empty l0 x3_1).size : Int) := of_decide_eq_true (by first | (with_reducible assumption) | assumption); omega)
                      have hx11 : ∀ h : 0 < (rdOf ByteArray.empty l0 x3_1).size, (((rdOf ByteArray.empty l0 x3_1)[0]'h).toNat : Int) = bt (rdOf ByteArray.empty l0 x3_1) 0 := bt_at (rdOf ByteArray.empty l0 x3_1) 0
                      clear p11
                      have qi11 : (0 < ((rdOf ByteArray.empty l0 x3_1).size : Int)) = True := eq_true (of_decide_eq_true (by first | (with_reducible assumption) | assumption))
                      replace q11 := eq_true q11
                      go_wp2_with (first | (go_at_call 32; (with_reducible refine (spec_allDigits.calls k1 ((rdOf ByteArray.empty l0 x3_1).extract 1 (rdOf ByteArray.empty l0 x3_1).size) true _ A14.out).mono ?_); rintro e w' ⟨rfl, ⟨nd, rfl⟩⟩))
                      go_ret
                      exact ⟨by first | rfl | (simp; done) | (simp [*]; done) | (simp [bne_nil_]; done), by repeat (first | exact Drawn0.refl _ | apply Drawn0.step)⟩
                    · replace c15 := Bool.eq_false_iff.mpr c15
                      subst c15
                      have H1 : (spec_IdentifiersKnown.l0 k1 l0 (wrap64 (x3_1 + 1))) = some r := by rw [if_neg (show ¬ (false = true) by decide)] at H; exact H
                      clear H
                      have H := H1
                      clear H1
                      have H' := Aside0.mk H
                      clear H
                      have p112 : 0 ≤ (x3_1 : Int) := of_decide_eq_true (by first | (with_reducible assumption) | assumption)
                      have q112 : x3_1 < (l0.length : Int) := of_decide_eq_true (by first | (with_reducible assumption) | assumption)
                      obtain ⟨ad112, e112, hx112_0⟩ := Kd.at_string HR0.out x3_1 p112 q112
                      cases e112
                      replace p112 := eq_true p112
                      replace q112 := eq_true q112
                      have p6 : 0 ≤ (0 : Int) := (by omega)
                      have q6 : 0 < (rdOf ByteArray.empty l0 x3_1).size := (by have : (0 : Int) < ((rdOf ByteArray.empty l0 x3_1).size : Int) := of_decide_eq_true (by first | (with_reducible assumption) | assumption); omega)
                      have hx6 : ∀ h : 0 < (rdOf ByteArray.empty l0 x3_1).size, (((rdOf ByteArray.empty l0 x3_1)[0]'h).toNat : Int) = bt (rdOf ByteArray.empty l0 x3_1) 0 := bt_at (rdOf ByteArray.empty l0 x3_1) 0
                      clear p6
                      have qi6 : (0 < ((rdOf ByteArray.empty l0 x3_1).size : Int)) = True := eq_true (of_decide_eq_true (by first | (with_reducible assumption) | assumption))
                      replace q6 := eq_true q6
                      have p11 : 0 ≤ (0 : Int) := (by omega)
                      have q11 : 0 < (rdOf ByteArray.empty l0 x3_1).size := (by have : (0 : Int) < ((rdOf ByteArray.empty l0 x3_1).size : Int) := of_decide_eq_true (by first | (with_reducible assumption) | assumption); omega)
                      have hx11 : ∀ h : 0 < (rdOf ByteArray.empty l0 x3_1).size, (((rdOf ByteArray.empty l0 x3_1)[0]'h).toNat : Int) = bt (rdOf ByteArray.empty l0 x3_1) 0 := bt_at (rdOf ByteArray.empty l0 x3_1) 0
                      clear p11
                      have qi11 : (0 < ((rdOf ByteArray.empty l0 x3_1).size : Int)) = True := eq_true (of_decide_eq_true (by first | (with_reducible assumption) | assumption))
                      replace q11 := eq_true q11
                      go_wp2_with (first | (go_at_call 32; (with_reducible refine (spec_allDigits.calls k1 ((rdOf ByteArray.empty l0 x3_1).extract 1 (rdOf ByteArray.empty l0 x3_1).size) false _ A14.out).mono ?_); rintro e w' ⟨rfl, ⟨nd, rfl⟩⟩))
                      go_roundg k1
                      case measure => have := HK1.out; omega
                      case rel => exact ⟨(wrap64 (x3_1 + 1)), (by first | rfl | (simp; done) | (simp [*]; done) | (simp [bne_nil_]; done)), H', ⟨by have := HK1.out; omega⟩, by repeat (first | exact Drawn0.refl _ | apply Drawn0.step)⟩
                  · rw [if_neg c13] at H
                    exact absurd H (by simp)
                · rw [if_neg c12] at H
                  have c12b0 : ((bt (rdOf ByteArray.empty l0 x3_1) 0) == 43) = false := beq_eq_false_iff_ne.mpr c12
                  have c12b1 : ((bt (rdOf ByteArray.empty l0 x3_1) 0) != 43) = true := bne_iff_ne.mpr c12
                  have H' := Aside0.mk H
                  clear H
                  have p112 : 0 ≤ (x3_1 : Int) := of_decide_eq_true (by first | (with_reducible assumption) | assumption)
                  have q112 : x3_1 < (l0.length : Int) := of_decide_eq_true (by first | (with_reducible assumption) | assumption)
                  obtain ⟨ad112, e112, hx112_0⟩ := Kd.at_string HR0.out x3_1 p112 q112
                  cases e112
                  replace p112 := eq_true p112
                  replace q112 := eq_true q112
                  have p6 : 0 ≤ (0 : Int) := (by omega)
                  have q6 : 0 < (rdOf ByteArray.empty l0 x3_1).size := (by have : (0 : Int) < ((rdOf ByteArray.empty l0 x3_1).size : Int) := of_decide_eq_true (by first | (with_reducible assumption) | assumption); omega)
                  have hx6 : ∀ h : 0 < (rdOf ByteArray.empty l0 x3_1).size, (((rdOf ByteArray.empty l0 x3_1)[0]'h).toNat : Int) = bt (rdOf ByteArray.empty l0 x3_1) 0 := bt_at (rdOf ByteArray.empty l0 x3_1) 0
                  clear p6
                  have qi6 : (0 < ((rdOf ByteArray.empty l0 x3_1).size : Int)) = True := eq_true (of_decide_eq_true (by first | (with_reducible assumption) | assumption))
                  replace q6 := eq_true q6
                  have p11 : 0 ≤ (0 : Int) := (by omega)
                  have q11 : 0 < (rdOf ByteArray.empty l0 x3_1).size := (by have : (0 : Int) < ((rdOf ByteArray.empty l0 x3_1).size : Int) := of_decide_eq_true (by first | (with_reducible assumption) | assumption); omega)
                  have hx11 : ∀ h : 0 < (rdOf ByteArray.empty l0 x3_1).size, (((rdOf ByteArray.empty l0 x3_1)[0]'h).toNat : Int) = bt (rdOf ByteArray.empty l0 x3_1) 0 := bt_at (rdOf ByteArray.empty l0 x3_1) 0
                  clear p11
                  have qi11 : (0 < ((rdOf ByteArray.empty l0 x3_1).size : Int)) = True := eq_true (of_decide_eq_true (by first | (with_reducible assumption) | assumption))
                  replace q11 := eq_true q11
                  go_wp2
                  go_roundg k1
                  case measure => have := HK1.out; omega
                  case rel => exact ⟨(wrap64 (x3_1 + 1)), (by first | rfl | (simp; done) | (simp [*]; done) | (simp [bne_nil_]; done)), H', ⟨by have := HK1.out; omega⟩, by repeat (first | exact Drawn0.refl _ | apply Drawn0.step)⟩
            · rw [if_neg c5] at H
              exact absurd H (by simp)
          · rw [if_neg c4] at H
            have c4b0 : decide (1 < ((rdOf ByteArray.empty l0 x3_1).size : Int)) = false := decide_eq_false c4
            have c4b1 : decide (1 < (rdOf ByteArray.empty l0 x3_1).size) = false := decide_eq_false (by omega)
            clear c4
            have H' := Aside0.mk H
            clear H
            have p112 : 0 ≤ (x3_1 : Int) := of_decide_eq_true (by first | (with_reducible assumption) | assumption)
            have q112 : x3_1 < (l0.length : Int) := of_decide_eq_true (by first | (with_reducible assumption) | assumption)
            obtain ⟨ad112, e112, hx112_0⟩ := Kd.at_string HR0.out x3_1 p112 q112
            cases e112
            replace p112 := eq_true p112
            replace q112 := eq_true q112
            go_wp2
            go_roundg k1
            case measure => have := HK1.out; omega
            case rel => exact ⟨(wrap64 (x3_1 + 1)), (by first | rfl | (simp; done) | (simp [*]; done) | (simp [bne_nil_]; done)), H', ⟨by have := HK1.out; omega⟩, by repeat (first | exact Drawn0.refl _ | apply Drawn0.step)⟩
        · rw [if_neg c3] at H
          exact absurd H (by simp)
      · rw [if_neg c2] at H
        have c2b0 : decide (x3_1 < (l0.length : Int)) = false := decide_eq_false c2
        clear c2
        obtain rfl := Option.some.inj H
        go_wp2
        go_ret
        exact ⟨by first | rfl | (simp; done) | (simp [*]; done) | (simp [bne_nil_]; done), by repeat (first | exact Drawn0.refl _ | apply Drawn0.step)⟩

end Go.Proofs.YtfmndbmlpfgbnaaGreatDoor.QY
