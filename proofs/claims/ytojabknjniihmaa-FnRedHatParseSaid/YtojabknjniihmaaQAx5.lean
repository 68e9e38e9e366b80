-- Written by a working copy of the kit's print program, turned at a few places by wip/tool/mkprint.py. Lean checks it.
import Derived.Test.YtojabknjniihmaaQAx0
import Derived.Test.YtojabknjniihmaaQAx3
import Derived.Test.YtojabknjniihmaaQAx4
namespace Go.Proofs.Ytojabknjniihmaa.QA
open Go.RowKit Go.Proofs.YtojabknjniihmaaW.PrintWords Go.Proofs.YtojabknjniihmaaW.PrintLast Go.Proofs.YtojabknjniihmaaW.PrintMore
attribute [local go_sem] max2_int min2_int max_two min_two max_three min_three max_four min_four   -- for this text's walks alone
set_option linter.unusedVariables false
set_option linter.unusedSimpArgs false

/-! ### spec_RedHatParse: function 21 -/
def spec_RedHatParse.j0 : Nat → ByteArray → Int → Bool → ByteArray → ByteArray → ByteArray → Option (ByteArray × ByteArray × ByteArray)
  | 0, _, _, _, _, _, _ => none
  | k + 1, x0, x4, x20, x122000, x122001, x122002 => if x20 = true then (if x4 > 0 then (if 0 ≤ x4 then (if x4 ≤ (x0.size : Int) then (if 0 ≤ (wrap64 (x4 + 1)) then (if (wrap64 (x4 + 1)) ≤ (x0.size : Int) then ((spec_indexOf.f k (x0.extract ((wrap64 (x4 + 1)) : Int).toNat x0.size) 45).bind fun t124 => (if t124 ≥ 0 then (if 0 ≤ t124 then (if t124 ≤ ((x0.extract ((wrap64 (x4 + 1)) : Int).toNat x0.size).size : Int) then (some (x0.extract 0 (x4 : Int).toNat, (x0.extract ((wrap64 (x4 + 1)) : Int).toNat x0.size).extract 0 (t124 : Int).toNat, (x0.extract ((wrap64 (x4 + 1)) : Int).toNat x0.size).extract (t124 : Int).toNat (x0.size - ((wrap64 (x4 + 1)) : Int).toNat))) else (none)) else (none)) else (some (x0.extract 0 (x4 : Int).toNat, x0.extract ((wrap64 (x4 + 1)) : Int).toNat x0.size, x122002)))) else (none)) else (none)) else (none)) else (none)) else (if 0 ≤ (wrap64 (x4 + 1)) then (if (wrap64 (x4 + 1)) ≤ (x0.size : Int) then ((spec_indexOf.f k (x0.extract ((wrap64 (x4 + 1)) : Int).toNat x0.size) 45).bind fun t125 => (if t125 ≥ 0 then (if 0 ≤ t125 then (if t125 ≤ ((x0.extract ((wrap64 (x4 + 1)) : Int).toNat x0.size).size : Int) then (some (x122000, (x0.extract ((wrap64 (x4 + 1)) : Int).toNat x0.size).extract 0 (t125 : Int).toNat, (x0.extract ((wrap64 (x4 + 1)) : Int).toNat x0.size).extract (t125 : Int).toNat (x0.size - ((wrap64 (x4 + 1)) : Int).toNat))) else (none)) else (none)) else (some (x122000, x0.extract ((wrap64 (x4 + 1)) : Int).toNat x0.size, x122002)))) else (none)) else (none))) else ((spec_indexOf.f k x0 45).bind fun t126 => (if t126 ≥ 0 then (if 0 ≤ t126 then (if t126 ≤ (x0.size : Int) then (some (x122000, x0.extract 0 (t126 : Int).toNat, x0.extract (t126 : Int).toNat x0.size)) else (none)) else (none)) else (some (x122000, x0, x122002))))
def spec_RedHatParse.f (k : Nat) (a0 : ByteArray) : Option (ByteArray × ByteArray × ByteArray) := (spec_indexOf.f k a0 58).bind fun t122 => (if t122 ≥ 0 then (if t122 = 0 then (spec_RedHatParse.j0 k a0 t122 true (⟨#[48]⟩ : ByteArray) (⟨#[]⟩ : ByteArray) (⟨#[]⟩ : ByteArray)) else (if 0 ≤ t122 then (if t122 ≤ (a0.size : Int) then ((spec_allDigits.f k (a0.extract 0 (t122 : Int).toNat)).bind fun t123 => (spec_RedHatParse.j0 k a0 t122 t123 (⟨#[48]⟩ : ByteArray) (⟨#[]⟩ : ByteArray) (⟨#[]⟩ : ByteArray))) else (none)) else (none))) else (spec_RedHatParse.j0 k a0 t122 false (⟨#[48]⟩ : ByteArray) (⟨#[]⟩ : ByteArray) (⟨#[]⟩ : ByteArray)))
theorem spec_RedHatParse.mono_l : ∀ k, (∀ y0 y1 y2 y3 y4 y5, LeO (spec_RedHatParse.j0 k y0 y1 y2 y3 y4 y5) (spec_RedHatParse.j0 (k + 1) y0 y1 y2 y3 y4 y5))
  | 0 => fun _ _ _ _ _ _ r h => by simp [spec_RedHatParse.j0] at h
  | k + 1 => by
    have ih0 := spec_RedHatParse.mono_l k
    · intro y0 y1 y2 y3 y4 y5
      unfold spec_RedHatParse.j0
      repeat' first
      | (with_reducible exact ih0 _ _ _ _ _ _)
      | (with_reducible exact spec_allDigits.mono _ _)
      | (with_reducible exact spec_indexOf.mono _ _ _)
      | (with_reducible exact LeO.refl _)
      | (with_reducible exact LeO.none _)
      | (with_reducible refine LeO.ite ?_ ?_)
      | (with_reducible refine LeO.bind ?_ (fun _ => ?_))
      | exact ih0 _ _ _ _ _ _
      | exact spec_allDigits.mono _ _
      | exact spec_indexOf.mono _ _ _
      | exact LeO.none _
      | refine LeO.ite ?_ ?_
      | refine LeO.bind ?_ (fun _ => ?_)
theorem spec_RedHatParse.mono : ∀ a0 k, LeO (spec_RedHatParse.f k a0) (spec_RedHatParse.f (k + 1) a0) := by
  intro a0 k
  have ih0 := spec_RedHatParse.mono_l k
  unfold spec_RedHatParse.f
  repeat' first
      | (with_reducible exact ih0 _ _ _ _ _ _)
      | (with_reducible exact spec_allDigits.mono _ _)
      | (with_reducible exact spec_indexOf.mono _ _ _)
      | (with_reducible exact LeO.refl _)
      | (with_reducible exact LeO.none _)
      | (with_reducible refine LeO.ite ?_ ?_)
      | (with_reducible refine LeO.bind ?_ (fun _ => ?_))
      | exact ih0 _ _ _ _ _ _
      | exact spec_allDigits.mono _ _
      | exact spec_indexOf.mono _ _ _
      | exact LeO.none _
      | refine LeO.ite ?_ ?_
      | refine LeO.bind ?_ (fun _ => ?_)
def spec_RedHatParse.T10 : Bool × List (List Nat × List Nat) := (true, [([], []), ([], []), ([0, 1], [0, 1]), ([], []), ([], []), ([3, 4], [3, 4]), ([0, 1, 2], []), ([6, 2, 0, 1, 2], [2, 6]), ([0, 1, 2, 3, 4, 5, 6, 7], []), ([8, 5, 7, 0, 1, 2, 3, 4, 5, 6, 7], [5, 8])])
def spec_RedHatParse.B10 : List Nat := [0, 0, 3, 0, 0, 24, 7, 71, 255, 511]
theorem spec_RedHatParse.tab10 : rtab .any (opsOf Try.f21 10) = spec_RedHatParse.T10 := by kernel_rfl
theorem spec_RedHatParse.bits10 : waitsOk spec_RedHatParse.T10.2 spec_RedHatParse.B10 = true := by kernel_rfl
set_option maxHeartbeats 8000000 in
set_option maxRecDepth 100000 in
theorem spec_RedHatParse.calls (k : Nat) (a0 : ByteArray) (r1 : ByteArray) (r2 : ByteArray) (r3 : ByteArray) (w : World) (h : spec_RedHatParse.f k a0 = some (r1, r2, r3)) :
    Calls Try.prog 21 #[.string a0] w fun e w' => e = .returned (.agg #[.string r1, .string r2, .string r3]) ∧ Below w.heap.size w w' := by
  have hu31 := Try.underlying31
  have HB := Aside0.mk (Below.refl w.heap.size w)
  have H : ((spec_indexOf.f k a0 58).bind fun t122 => (if t122 ≥ 0 then (if t122 = 0 then (spec_RedHatParse.j0 k a0 t122 true (⟨#[48]⟩ : ByteArray) (⟨#[]⟩ : ByteArray) (⟨#[]⟩ : ByteArray)) else (if 0 ≤ t122 then (if t122 ≤ (a0.size : Int) then ((spec_allDigits.f k (a0.extract 0 (t122 : Int).toNat)).bind fun t123 => (spec_RedHatParse.j0 k a0 t122 t123 (⟨#[48]⟩ : ByteArray) (⟨#[]⟩ : ByteArray) (⟨#[]⟩ : ByteArray))) else (none)) else (none))) else (spec_RedHatParse.j0 k a0 t122 false (⟨#[48]⟩ : ByteArray) (⟨#[]⟩ : ByteArray) (⟨#[]⟩ : ByteArray)))) = some (r1, r2, r3) := h
  clear h
  replace H := Option.bind_eq_some_iff.mp H
  obtain ⟨t122, A20, H⟩ := H
  replace H : (if t122 ≥ 0 then (if t122 = 0 then (spec_RedHatParse.j0 k a0 t122 true (⟨#[48]⟩ : ByteArray) (⟨#[]⟩ : ByteArray) (⟨#[]⟩ : ByteArray)) else (if 0 ≤ t122 then (if t122 ≤ (a0.size : Int) then ((spec_allDigits.f k (a0.extract 0 (t122 : Int).toNat)).bind fun t123 => (spec_RedHatParse.j0 k a0 t122 t123 (⟨#[48]⟩ : ByteArray) (⟨#[]⟩ : ByteArray) (⟨#[]⟩ : ByteArray))) else (none)) else (none))) else (spec_RedHatParse.j0 k a0 t122 false (⟨#[48]⟩ : ByteArray) (⟨#[]⟩ : ByteArray) (⟨#[]⟩ : ByteArray))) = some (r1, r2, r3) := H
  have A2 := Aside0.mk A20
  clear A20
  have HC3 := Aside0.mk H
  clear H
  go_enter Try.func21, Try.ntmps21
  go_upto_region 3 with (first | ((with_reducible refine gate_dst (N := 2) rfl ?_); refine box_event ?hg (N := 2) ?hd (cs := #[.string (⟨#[]⟩ : ByteArray), .string (⟨#[]⟩ : ByteArray), .string (⟨#[]⟩ : ByteArray)]) (t := 31) ?hr ?_; (case hd => rfl); (case hg => rfl); (case hr => first | (go_simp; done) | (go_simp; rfl)); intro gb120 hg w4 hbox hb; have n0_ := Aside0.mk (below_step (by repeat (first | (with_reducible first | exact HB.out | apply below_alloc | apply pw_below_drewN | apply below_drew1) | exact HB.out)) hb); have n1_ := Aside0.mk (hbox); have n2_ := Aside0.mk ((by rw [hg]; exact (below_size (by repeat (first | (with_reducible first | exact HB.out | apply below_alloc | apply pw_below_drewN | apply below_drew1) | exact HB.out))) : w.heap.size ≤ gb120)); have n3_ := Aside0.mk ((by rw [hg]; exact (below_size (by repeat (first | (with_reducible first | exact HB.out | apply below_alloc | apply pw_below_drewN | apply below_drew1) | exact HB.out))) : w.heap.size ≤ gb120)); clear HB; have HB := n0_; have BK120 := n1_; have GW120 := n2_; have GE120 := n3_; clear n0_ n1_ n2_ n3_; clear hb hbox hg) | ((with_reducible refine gate_dst (N := 3) rfl ?_); refine box_event ?hg (N := 3) ?hd (cs := #[.string (⟨#[]⟩ : ByteArray), .string (⟨#[]⟩ : ByteArray), .string (⟨#[]⟩ : ByteArray)]) (t := 31) ?hr ?_; (case hd => rfl); (case hg => rfl); (case hr => first | (go_simp; done) | (go_simp; rfl)); intro gb121 hg w5 hbox hb; have n0_ := Aside0.mk (blk_below (g := gb120) (o := .cells #[.string (⟨#[]⟩ : ByteArray), .string (⟨#[]⟩ : ByteArray), .string (⟨#[]⟩ : ByteArray)] 31 (0, 0)) (by (with_reducible repeat (first | refine blk_drewN ?_ _ | refine blk_drew ?_ | refine blk_alloc ?_ _)); exact BK120.out) hb); have n1_ := Aside0.mk (below_step (by repeat (first | (with_reducible first | exact HB.out | apply below_alloc | apply pw_below_drewN | apply below_drew1 | refine below_set ?_ GE120.out) | exact HB.out)) hb); have n2_ := Aside0.mk (hbox); have n3_ := Aside0.mk ((by rw [hg]; exact (below_size (by repeat (first | (with_reducible first | exact HB.out | apply below_alloc | apply pw_below_drewN | apply below_drew1 | refine below_set ?_ GE120.out) | exact HB.out))) : w.heap.size ≤ gb121)); have n4_ := Aside0.mk ((by rw [hg]; exact (below_size (by repeat (first | (with_reducible first | exact HB.out | apply below_alloc | apply pw_below_drewN | apply below_drew1 | refine below_set ?_ GE120.out) | exact HB.out))) : w.heap.size ≤ gb121)); have n5_ := Aside0.mk ((by rw [hg]; exact Nat.ne_of_lt (blk_lt (g := gb120) (o := .cells #[.string (⟨#[]⟩ : ByteArray), .string (⟨#[]⟩ : ByteArray), .string (⟨#[]⟩ : ByteArray)] 31 (0, 0)) (by (with_reducible repeat (first | refine blk_drewN ?_ _ | refine blk_drew ?_ | refine blk_alloc ?_ _)); exact BK120.out)) : gb120 ≠ gb121)); have n6_ := Aside0.mk ((by rw [hg]; exact Nat.ne_of_gt (blk_lt (g := gb120) (o := .cells #[.string (⟨#[]⟩ : ByteArray), .string (⟨#[]⟩ : ByteArray), .string (⟨#[]⟩ : ByteArray)] 31 (0, 0)) (by (with_reducible repeat (first | refine blk_drewN ?_ _ | refine blk_drew ?_ | refine blk_alloc ?_ _)); exact BK120.out)) : gb121 ≠ gb120)); clear BK120; clear HB; have BK120 := n0_; have HB := n1_; have BK121 := n2_; have GW121 := n3_; have GE121 := n4_; have NB120_121 := n5_; have NB121_120 := n6_; clear n0_ n1_ n2_ n3_ n4_ n5_ n6_; clear hb hbox hg; have hnb6 := NB121_120.out; have hnc6 := NB120_121.out; have hcz7_0 : w5.cell? ⟨gb121, 0, none⟩ = some (.string (⟨#[]⟩ : ByteArray)) := (blk_cell BK121.out 0).trans rfl; have hcz7_1 : w5.cell? ⟨gb121, 1, none⟩ = some (.string (⟨#[]⟩ : ByteArray)) := (blk_cell BK121.out 1).trans rfl; have hcz7_2 : w5.cell? ⟨gb121, 2, none⟩ = some (.string (⟨#[]⟩ : ByteArray)) := (blk_cell BK121.out 2).trans rfl; have hfz7_0 := blk_frozen BK121.out 0; have hfz7_1 := blk_frozen BK121.out 1; have hfz7_2 := blk_frozen BK121.out 2) | ((with_reducible refine gate_callee (f := 34) rfl ?_); refine goesL_ (some 8) rfl rfl Try.func34 (by kernel_rfl) rfl #[.string a0, .int .u8 58] rfl (by (try simp only [List.map_toArray, List.map_cons, List.map_nil]); first | done | rfl | (simp only [List.length_drop, List.length_take]; rfl)) ?_; (with_reducible refine (spec_indexOf.calls k a0 58 t122 _ A2.out).mono ?_); rintro e w' ⟨rfl, ⟨nd, rfl⟩⟩; refine ⟨_, rfl, ?_⟩))
  (try simp only [Act.put, List.setIfInBounds_toArray, List.set_cons_zero, List.set_cons_succ])
  go_cut [20] (fun v20 wc => ∃ (kq : Nat) (x20_2 : Bool), v20 = .bool x20_2 ∧ Aside0 (spec_RedHatParse.j0 kq a0 t122 x20_2 (⟨#[48]⟩ : ByteArray) (⟨#[]⟩ : ByteArray) (⟨#[]⟩ : ByteArray) = some (r1, r2, r3)) ∧ Aside0 (kq ≤ k) ∧ Aside0 (wc.heap[gb120]? = some (.cells #[.string (⟨#[]⟩ : ByteArray), .string (⟨#[]⟩ : ByteArray), .string (⟨#[]⟩ : ByteArray)] 31 (0, 0))) ∧ Aside0 (wc.heap[gb121]? = some (.cells #[.string (⟨#[48]⟩ : ByteArray), .string (⟨#[]⟩ : ByteArray), .string (⟨#[]⟩ : ByteArray)] 31 (0, 0))) ∧ Aside0 (Below w.heap.size w wc))
  case first =>
    have H := HC3.out
    clear HC3
    by_cases c8 : t122 ≥ 0
    · rw [if_pos c8] at H
      have c8b0 : decide (0 ≤ t122) = true := decide_eq_true c8
      clear c8
      (first | rw [c8b0] | (simp only [i64_w, i32_w]; rw [c8b0]) | skip)
      by_cases c9 : t122 = 0
      · rw [if_pos c9] at H
        have c9b0 : (t122 == 0) = true := beq_iff_eq.mpr c9
        have c9b1 : (t122 != 0) = false := bne_eq_false_iff_eq.mpr c9
        clear c9
        have H' := Aside0.mk H
        clear H
        go_wp2
        go_meet
        case rel => exact ⟨_, (true), (by first | rfl | (simp; done) | (simp [*]; done) | (simp [bne_nil_]; done)), H', ⟨by first | omega | exact Nat.le_refl _⟩, ⟨by (with_reducible repeat (first | refine blk_drewN ?_ _ | refine blk_drew ?_ | refine blk_alloc ?_ _)); refine blk_far ?_ NB120_121.out _; (with_reducible repeat (first | refine blk_drewN ?_ _ | refine blk_drew ?_ | refine blk_alloc ?_ _)); refine blk_far ?_ NB120_121.out _; (with_reducible repeat (first | refine blk_drewN ?_ _ | refine blk_drew ?_ | refine blk_alloc ?_ _)); refine blk_far ?_ NB120_121.out _; (with_reducible repeat (first | refine blk_drewN ?_ _ | refine blk_drew ?_ | refine blk_alloc ?_ _)); exact BK120.out⟩, ⟨by (with_reducible repeat (first | refine blk_drewN ?_ _ | refine blk_drew ?_ | refine blk_alloc ?_ _)); refine blk_put (cs := #[.string (⟨#[48]⟩ : ByteArray), .string (⟨#[]⟩ : ByteArray), .string (⟨#[]⟩ : ByteArray)]) ?_ 2 _ rfl; (with_reducible repeat (first | refine blk_drewN ?_ _ | refine blk_drew ?_ | refine blk_alloc ?_ _)); refine blk_put (cs := #[.string (⟨#[48]⟩ : ByteArray), .string (⟨#[]⟩ : ByteArray), .string (⟨#[]⟩ : ByteArray)]) ?_ 1 _ rfl; (with_reducible repeat (first | refine blk_drewN ?_ _ | refine blk_drew ?_ | refine blk_alloc ?_ _)); refine blk_put (cs := #[.string (⟨#[]⟩ : ByteArray), .string (⟨#[]⟩ : ByteArray), .string (⟨#[]⟩ : ByteArray)]) ?_ 0 _ rfl; (with_reducible repeat (first | refine blk_drewN ?_ _ | refine blk_drew ?_ | refine blk_alloc ?_ _)); exact BK121.out⟩, ⟨by repeat (first | (with_reducible first | exact HB.out | apply below_alloc | apply pw_below_drewN | apply below_drew1 | refine below_set ?_ GE120.out | refine below_set ?_ GE121.out) | exact HB.out)⟩⟩
      · rw [if_neg c9] at H
        have c9b0 : (t122 == 0) = false := beq_eq_false_iff_ne.mpr c9
        have c9b1 : (t122 != 0) = true := bne_iff_ne.mpr c9
        by_cases c10 : 0 ≤ t122
        · rw [if_pos c10] at H
          have c10b0 := eq_true c10
          have c10b1 : decide (0 ≤ t122) = true := decide_eq_true c10
          clear c10
          by_cases c11 : t122 ≤ (a0.size : Int)
          · rw [if_pos c11] at H
            have c11b0 := eq_true c11
            have c11b1 : decide (t122 ≤ (a0.size : Int)) = true := decide_eq_true c11
            clear c11
            replace H := Option.bind_eq_some_iff.mp H
            obtain ⟨t123, A120, H⟩ := H
            replace H : (spec_RedHatParse.j0 k a0 t122 t123 (⟨#[48]⟩ : ByteArray) (⟨#[]⟩ : ByteArray) (⟨#[]⟩ : ByteArray)) = some (r1, r2, r3) := H
            have A12 := Aside0.mk A120
            clear A120
            have H' := Aside0.mk H
            clear H
            go_wp2_with (first | (go_at_call 35; (with_reducible refine (spec_allDigits.calls k (a0.extract 0 (t122 : Int).toNat) t123 _ A12.out).mono ?_); rintro e w' ⟨rfl, ⟨nd, rfl⟩⟩))
            go_meet
            case rel => exact ⟨_, (t123), (by first | rfl | (simp; done) | (simp [*]; done) | (simp [bne_nil_]; done)), H', ⟨by first | omega | exact Nat.le_refl _⟩, ⟨by (with_reducible repeat (first | refine blk_drewN ?_ _ | refine blk_drew ?_ | refine blk_alloc ?_ _)); refine blk_far ?_ NB120_121.out _; (with_reducible repeat (first | refine blk_drewN ?_ _ | refine blk_drew ?_ | refine blk_alloc ?_ _)); refine blk_far ?_ NB120_121.out _; (with_reducible repeat (first | refine blk_drewN ?_ _ | refine blk_drew ?_ | refine blk_alloc ?_ _)); refine blk_far ?_ NB120_121.out _; (with_reducible repeat (first | refine blk_drewN ?_ _ | refine blk_drew ?_ | refine blk_alloc ?_ _)); exact BK120.out⟩, ⟨by (with_reducible repeat (first | refine blk_drewN ?_ _ | refine blk_drew ?_ | refine blk_alloc ?_ _)); refine blk_put (cs := #[.string (⟨#[48]⟩ : ByteArray), .string (⟨#[]⟩ : ByteArray), .string (⟨#[]⟩ : ByteArray)]) ?_ 2 _ rfl; (with_reducible repeat (first | refine blk_drewN ?_ _ | refine blk_drew ?_ | refine blk_alloc ?_ _)); refine blk_put (cs := #[.string (⟨#[48]⟩ : ByteArray), .string (⟨#[]⟩ : ByteArray), .string (⟨#[]⟩ : ByteArray)]) ?_ 1 _ rfl; (with_reducible repeat (first | refine blk_drewN ?_ _ | refine blk_drew ?_ | refine blk_alloc ?_ _)); refine blk_put (cs := #[.string (⟨#[]⟩ : ByteArray), .string (⟨#[]⟩ : ByteArray), .string (⟨#[]⟩ : ByteArray)]) ?_ 0 _ rfl; (with_reducible repeat (first | refine blk_drewN ?_ _ | refine blk_drew ?_ | refine blk_alloc ?_ _)); exact BK121.out⟩, ⟨by repeat (first | (with_reducible first | exact HB.out | apply below_alloc | apply pw_below_drewN | apply below_drew1 | refine below_set ?_ GE120.out | refine below_set ?_ GE121.out) | exact HB.out)⟩⟩
          · rw [if_neg c11] at H
            exact absurd H (by simp)
        · rw [if_neg c10] at H
          exact absurd H (by simp)
    · rw [if_neg c8] at H
      have c8b0 : decide (0 ≤ t122) = false := decide_eq_false c8
      clear c8
      (first | rw [c8b0] | (simp only [i64_w, i32_w]; rw [c8b0]) | skip)
      have H' := Aside0.mk H
      clear H
      go_wp2
      go_meet
      case rel => exact ⟨_, (false), (by first | rfl | (simp; done) | (simp [*]; done) | (simp [bne_nil_]; done)), H', ⟨by first | omega | exact Nat.le_refl _⟩, ⟨by (with_reducible repeat (first | refine blk_drewN ?_ _ | refine blk_drew ?_ | refine blk_alloc ?_ _)); refine blk_far ?_ NB120_121.out _; (with_reducible repeat (first | refine blk_drewN ?_ _ | refine blk_drew ?_ | refine blk_alloc ?_ _)); refine blk_far ?_ NB120_121.out _; (with_reducible repeat (first | refine blk_drewN ?_ _ | refine blk_drew ?_ | refine blk_alloc ?_ _)); refine blk_far ?_ NB120_121.out _; (with_reducible repeat (first | refine blk_drewN ?_ _ | refine blk_drew ?_ | refine blk_alloc ?_ _)); exact BK120.out⟩, ⟨by (with_reducible repeat (first | refine blk_drewN ?_ _ | refine blk_drew ?_ | refine blk_alloc ?_ _)); refine blk_put (cs := #[.string (⟨#[48]⟩ : ByteArray), .string (⟨#[]⟩ : ByteArray), .string (⟨#[]⟩ : ByteArray)]) ?_ 2 _ rfl; (with_reducible repeat (first | refine blk_drewN ?_ _ | refine blk_drew ?_ | refine blk_alloc ?_ _)); refine blk_put (cs := #[.string (⟨#[48]⟩ : ByteArray), .string (⟨#[]⟩ : ByteArray), .string (⟨#[]⟩ : ByteArray)]) ?_ 1 _ rfl; (with_reducible repeat (first | refine blk_drewN ?_ _ | refine blk_drew ?_ | refine blk_alloc ?_ _)); refine blk_put (cs := #[.string (⟨#[]⟩ : ByteArray), .string (⟨#[]⟩ : ByteArray), .string (⟨#[]⟩ : ByteArray)]) ?_ 0 _ rfl; (with_reducible repeat (first | refine blk_drewN ?_ _ | refine blk_drew ?_ | refine blk_alloc ?_ _)); exact BK121.out⟩, ⟨by repeat (first | (with_reducible first | exact HB.out | apply below_alloc | apply pw_below_drewN | apply below_drew1 | refine below_set ?_ GE120.out | refine below_set ?_ GE121.out) | exact HB.out)⟩⟩
  case rest =>
    clear HC3
    try clear c1
    try clear c2
    try clear p2
    try clear c3
    try clear c6
    try clear c8
    try clear c8b0
    try clear c9
    try clear c9b0
    try clear c9b1
    try clear c10
    try clear c10b0
    try clear c10b1
    try clear c11
    try clear c11b0
    try clear c11b1
    try clear hcz7_0
    try clear hcz7_1
    try clear hcz7_2
    try clear hfz7_0
    try clear hfz7_1
    try clear hfz7_2
    obtain ⟨kq, x20_2, rfl, HA, HJ2, BK120, BK121, HB⟩ := hcut
    cases kq with
    | zero => exact absurd HA.out (by simp [spec_RedHatParse.j0])
    | succ kj2 =>
      have H := HA.out
      clear HA
      simp only [spec_RedHatParse.j0] at H
      by_cases c13 : x20_2 = true
      · subst c13
        have H1 : (if t122 > 0 then (if 0 ≤ t122 then (if t122 ≤ (a0.size : Int) then (if 0 ≤ (wrap64 (t122 + 1)) then (if (wrap64 (t122 + 1)) ≤ (a0.size : Int) then ((spec_indexOf.f kj2 (a0.extract ((wrap64 (t122 + 1)) : Int).toNat a0.size) 45).bind fun t124 => (if t124 ≥ 0 then (if 0 ≤ t124 then (if t124 ≤ ((a0.extract ((wrap64 (t122 + 1)) : Int).toNat a0.size).size : Int) then (some (a0.extract 0 (t122 : Int).toNat, (a0.extract ((wrap64 (t122 + 1)) : Int).toNat a0.size).extract 0 (t124 : Int).toNat, (a0.extract ((wrap64 (t122 + 1)) : Int).toNat a0.size).extract (t124 : Int).toNat (a0.size - ((wrap64 (t122 + 1)) : Int).toNat))) else (none)) else (none)) else (some (a0.extract 0 (t122 : Int).toNat, a0.extract ((wrap64 (t122 + 1)) : Int).toNat a0.size, (⟨#[]⟩ : ByteArray))))) else (none)) else (none)) else (none)) else (none)) else (if 0 ≤ (wrap64 (t122 + 1)) then (if (wrap64 (t122 + 1)) ≤ (a0.size : Int) then ((spec_indexOf.f kj2 (a0.extract ((wrap64 (t122 + 1)) : Int).toNat a0.size) 45).bind fun t125 => (if t125 ≥ 0 then (if 0 ≤ t125 then (if t125 ≤ ((a0.extract ((wrap64 (t122 + 1)) : Int).toNat a0.size).size : Int) then (some ((⟨#[48]⟩ : ByteArray), (a0.extract ((wrap64 (t122 + 1)) : Int).toNat a0.size).extract 0 (t125 : Int).toNat, (a0.extract ((wrap64 (t122 + 1)) : Int).toNat a0.size).extract (t125 : Int).toNat (a0.size - ((wrap64 (t122 + 1)) : Int).toNat))) else (none)) else (none)) else (some ((⟨#[48]⟩ : ByteArray), a0.extract ((wrap64 (t122 + 1)) : Int).toNat a0.size, (⟨#[]⟩ : ByteArray))))) else (none)) else (none))) = some (r1, r2, r3) := by rw [if_pos rfl] at H; exact H
        clear H
        have H := H1
        clear H1
        by_cases c14 : t122 > 0
        · rw [if_pos c14] at H
          have c14b0 : decide (0 < t122) = true := decide_eq_true c14
          clear c14
          by_cases c15 : 0 ≤ t122
          · rw [if_pos c15] at H
            have c15b0 := eq_true c15
            have c15b1 : decide (0 ≤ t122) = true := decide_eq_true c15
            clear c15
            by_cases c16 : t122 ≤ (a0.size : Int)
            · rw [if_pos c16] at H
              have c16b0 := eq_true c16
              have c16b1 : decide (t122 ≤ (a0.size : Int)) = true := decide_eq_true c16
              clear c16
              obtain ⟨ji17, hji17⟩ : ∃ j_ : Int, (wrap64 (t122 + 1)) = j_ := ⟨_, rfl⟩
              replace H : (if 0 ≤ (ji17) then (if (ji17) ≤ (a0.size : Int) then ((spec_indexOf.f kj2 (a0.extract ((ji17) : Int).toNat a0.size) 45).bind fun t124 => (if t124 ≥ 0 then (if 0 ≤ t124 then (if t124 ≤ ((a0.extract ((ji17) : Int).toNat a0.size).size : Int) then (some (a0.extract 0 (t122 : Int).toNat, (a0.extract ((ji17) : Int).toNat a0.size).extract 0 (t124 : Int).toNat, (a0.extract ((ji17) : Int).toNat a0.size).extract (t124 : Int).toNat (a0.size - ((ji17) : Int).toNat))) else (none)) else (none)) else (some (a0.extract 0 (t122 : Int).toNat, a0.extract ((ji17) : Int).toNat a0.size, (⟨#[]⟩ : ByteArray))))) else (none)) else (none)) = some (r1, r2, r3) := by first | (rw [hji17] at H; exact H) | (simp only [hji17] at H ⊢; exact H)
              have hji17w : (IntKind.i64.wrap (t122 + 1)) = ji17 := (i64_w _).trans hji17
              by_cases c18 : 0 ≤ (ji17)
              · rw [if_pos c18] at H
                have c18b0 := eq_true c18
                have c18b1 : decide (0 ≤ (ji17)) = true := decide_eq_true c18
                clear c18
                by_cases c19 : (ji17) ≤ (a0.size : Int)
                · rw [if_pos c19] at H
                  have c19b0 := eq_true c19
                  have c19b1 : decide ((ji17) ≤ (a0.size : Int)) = true := decide_eq_true c19
                  clear c19
                  replace H := Option.bind_eq_some_iff.mp H
                  obtain ⟨t124, A200, H⟩ := H
                  replace H : (if t124 ≥ 0 then (if 0 ≤ t124 then (if t124 ≤ ((a0.extract ((ji17) : Int).toNat a0.size).size : Int) then (some (a0.extract 0 (t122 : Int).toNat, (a0.extract ((ji17) : Int).toNat a0.size).extract 0 (t124 : Int).toNat, (a0.extract ((ji17) : Int).toNat a0.size).extract (t124 : Int).toNat (a0.size - ((ji17) : Int).toNat))) else (none)) else (none)) else (some (a0.extract 0 (t122 : Int).toNat, a0.extract ((ji17) : Int).toNat a0.size, (⟨#[]⟩ : ByteArray)))) = some (r1, r2, r3) := H
                  have A20 := Aside0.mk A200
                  clear A200
                  by_cases c21 : t124 ≥ 0
                  · rw [if_pos c21] at H
                    have c21b0 : decide (0 ≤ t124) = true := decide_eq_true c21
                    clear c21
                    by_cases c22 : 0 ≤ t124
                    · rw [if_pos c22] at H
                      have c22b0 := eq_true c22
                      have c22b1 : decide (0 ≤ t124) = true := decide_eq_true c22
                      clear c22
                      by_cases c23 : t124 ≤ ((a0.extract ((ji17) : Int).toNat a0.size).size : Int)
                      · rw [if_pos c23] at H
                        have c23b0 := eq_true c23
                        have c23b1 : decide (t124 ≤ ((a0.extract ((ji17) : Int).toNat a0.size).size : Int)) = true := decide_eq_true c23
                        (try (have c23bz := c23; simp only [ByteArray.size_extract, Nat.min_self] at c23bz; replace c23bz := eq_true c23bz))
                        clear c23
                        have c24b0 := eq_true (of_decide_eq_true (by first | (with_reducible assumption) | assumption) : 0 ≤ t124)
                        have c25b0 := eq_true (of_decide_eq_true (by first | (with_reducible assumption) | assumption) : t124 ≤ ((a0.extract ((ji17) : Int).toNat a0.size).size : Int))
                        simp only [Option.some.injEq, Prod.mk.injEq] at H
                        obtain ⟨rfl, rfl, rfl⟩ := H
                        have hnb26 := NB121_120.out
                        have hnc26 := NB120_121.out
                        have hcz27_0 : wc.cell? ⟨gb121, 0, none⟩ = some (.string (⟨#[48]⟩ : ByteArray)) := (blk_cell BK121.out 0).trans rfl
                        have hcz27_1 : wc.cell? ⟨gb121, 1, none⟩ = some (.string (⟨#[]⟩ : ByteArray)) := (blk_cell BK121.out 1).trans rfl
                        have hcz27_2 : wc.cell? ⟨gb121, 2, none⟩ = some (.string (⟨#[]⟩ : ByteArray)) := (blk_cell BK121.out 2).trans rfl
                        have hfz27_0 := blk_frozen BK121.out 0
                        have hfz27_1 := blk_frozen BK121.out 1
                        have hfz27_2 := blk_frozen BK121.out 2
                        try go_wp2_with (first | ((with_reducible refine gate_callee (f := 34) rfl ?_); refine goesL_ (some 34) rfl rfl Try.func34 (by kernel_rfl) rfl #[.string (a0.extract ((ji17) : Int).toNat a0.size), .int .u8 45] rfl (by (try simp only [List.map_toArray, List.map_cons, List.map_nil]); first | done | (simp only [hji17]; rfl) | rfl | (simp only [List.length_drop, List.length_take]; rfl)) ?_; (with_reducible refine (spec_indexOf.calls kj2 (a0.extract ((ji17) : Int).toNat a0.size) 45 t124 _ A20.out).mono ?_); rintro e w' ⟨rfl, ⟨nd, rfl⟩⟩; refine ⟨_, rfl, ?_⟩))
                        have n0_ : Aside0 (((wc.setCell ⟨gb121, 0, none⟩ (.string (a0.extract 0 (t122 : Int).toNat))).setCell ⟨gb121, 1, none⟩ (.string (a0.extract ((ji17) : Int).toNat a0.size))).heap[gb120]? = some (.cells #[.string (⟨#[]⟩ : ByteArray), .string (⟨#[]⟩ : ByteArray), .string (⟨#[]⟩ : ByteArray)] 31 (0, 0))) := ⟨by (with_reducible repeat (first | refine blk_drewN ?_ _ | refine blk_drew ?_ | refine blk_alloc ?_ _)); refine blk_far ?_ NB120_121.out _; (with_reducible repeat (first | refine blk_drewN ?_ _ | refine blk_drew ?_ | refine blk_alloc ?_ _)); refine blk_far ?_ NB120_121.out _; (with_reducible repeat (first | refine blk_drewN ?_ _ | refine blk_drew ?_ | refine blk_alloc ?_ _)); exact BK120.out⟩
                        have n1_ : Aside0 (((wc.setCell ⟨gb121, 0, none⟩ (.string (a0.extract 0 (t122 : Int).toNat))).setCell ⟨gb121, 1, none⟩ (.string (a0.extract ((ji17) : Int).toNat a0.size))).heap[gb121]? = some (.cells #[.string (a0.extract 0 (t122 : Int).toNat), .string (a0.extract ((ji17) : Int).toNat a0.size), .string (⟨#[]⟩ : ByteArray)] 31 (0, 0))) := ⟨by (with_reducible repeat (first | refine blk_drewN ?_ _ | refine blk_drew ?_ | refine blk_alloc ?_ _)); refine blk_put (cs := #[.string (a0.extract 0 (t122 : Int).toNat), .string (⟨#[]⟩ : ByteArray), .string (⟨#[]⟩ : ByteArray)]) ?_ 1 _ rfl; (with_reducible repeat (first | refine blk_drewN ?_ _ | refine blk_drew ?_ | refine blk_alloc ?_ _)); refine blk_put (cs := #[.string (⟨#[48]⟩ : ByteArray), .string (⟨#[]⟩ : ByteArray), .string (⟨#[]⟩ : ByteArray)]) ?_ 0 _ rfl; (with_reducible repeat (first | refine blk_drewN ?_ _ | refine blk_drew ?_ | refine blk_alloc ?_ _)); exact BK121.out⟩
                        have n2_ : Aside0 (Below w.heap.size w ((wc.setCell ⟨gb121, 0, none⟩ (.string (a0.extract 0 (t122 : Int).toNat))).setCell ⟨gb121, 1, none⟩ (.string (a0.extract ((ji17) : Int).toNat a0.size)))) := ⟨by repeat (first | (with_reducible first | exact HB.out | apply below_alloc | apply pw_below_drewN | apply below_drew1 | refine below_set ?_ GE120.out | refine below_set ?_ GE121.out) | exact HB.out)⟩
                        (try clear BK120)
                        (try clear BK121)
                        (try clear HB)
                        generalize ((wc.setCell ⟨gb121, 0, none⟩ (.string (a0.extract 0 (t122 : Int).toNat))).setCell ⟨gb121, 1, none⟩ (.string (a0.extract ((ji17) : Int).toNat a0.size))) = w28 at n0_ n1_ n2_ ⊢
                        have BK120 := n0_
                        have BK121 := n1_
                        have HB := n2_
                        clear n0_ n1_ n2_
                        (try (rw [drewN_self w28]; generalize hq_ : World.drewN w28 _ = w28; have n0_ : Aside0 (w28.heap[gb120]? = some (.cells #[.string (⟨#[]⟩ : ByteArray), .string (⟨#[]⟩ : ByteArray), .string (⟨#[]⟩ : ByteArray)] 31 (0, 0))) := ⟨by rw [← hq_]; exact (by (with_reducible repeat (first | refine blk_drewN ?_ _ | refine blk_drew ?_ | refine blk_alloc ?_ _)); exact BK120.out)⟩; have n1_ : Aside0 (w28.heap[gb121]? = some (.cells #[.string (a0.extract 0 (t122 : Int).toNat), .string (a0.extract ((ji17) : Int).toNat a0.size), .string (⟨#[]⟩ : ByteArray)] 31 (0, 0))) := ⟨by rw [← hq_]; exact (by (with_reducible repeat (first | refine blk_drewN ?_ _ | refine blk_drew ?_ | refine blk_alloc ?_ _)); exact BK121.out)⟩; have n2_ : Aside0 (Below w.heap.size w w28) := ⟨by rw [← hq_]; exact (by repeat (first | (with_reducible first | exact HB.out | apply below_alloc | apply pw_below_drewN | apply below_drew1 | refine below_set ?_ GE120.out | refine below_set ?_ GE121.out) | exact HB.out))⟩; clear BK120 BK121 HB hq_; have BK120 := n0_; have BK121 := n1_; have HB := n2_; clear n0_ n1_ n2_))
                        have n0_ := Aside0.mk (blk_drew BK120.out)
                        have n1_ := Aside0.mk (blk_drew BK121.out)
                        have n2_ := Aside0.mk (below_drew1 HB.out)
                        clear BK120
                        clear BK121
                        clear HB
                        have BK120 := n0_
                        have BK121 := n1_
                        have HB := n2_
                        clear n0_ n1_ n2_
                        refine start_ (n := 10) (S := fun w' => True) (ds := []) #[false, false, false, false, false, false, false, false, false, false] (by kernel_rfl) rfl rfl trivial (fun hHeld => ?_); refine with_tabW spec_RedHatParse.tab10 spec_RedHatParse.bits10 (fun HT_ HW_ => ?_)
                        generalize w28.drew = w29 at BK120 BK121 HB hHeld ⊢
                        refine pure_ (i := 0) (N := some 37) (v := ?_) (a' := ?_) #[true, false, false, false, false, false, false, false, false, false] rfl rfl (any_of HT_.out (by kernel_rfl)) (fun _ _ _ h => h) (Or.inl ⟨by rfl, ?_⟩) ?_ ?_
                        rotate_left
                        · intro w'
                          go_simp
                          with_reducible rfl
                        rotate_left
                        · simp only [Act.put, List.setIfInBounds_toArray, List.set_cons_zero, List.set_cons_succ, i64_w, i32_w]
                          rfl
                        refine pure_ (i := 1) (N := some 38) (v := ?_) (a' := ?_) #[true, true, false, false, false, false, false, false, false, false] rfl rfl (any_of HT_.out (by kernel_rfl)) (fun _ _ _ h => h) (Or.inl ⟨by rfl, ?_⟩) ?_ ?_
                        rotate_left
                        · intro w'
                          go_simp
                          with_reducible rfl
                        rotate_left
                        · simp only [Act.put, List.setIfInBounds_toArray, List.set_cons_zero, List.set_cons_succ, i64_w, i32_w]
                          rfl
                        refine pure_ (i := 2) (N := some 39) (v := ?_) (a' := ?_) #[true, true, true, false, false, false, false, false, false, false] rfl rfl (any_of HT_.out (by kernel_rfl)) (fun _ _ _ h => h) (Or.inl ⟨by rfl, ?_⟩) ?_ ?_
                        rotate_left
                        · intro w'
                          go_simp
                          with_reducible rfl
                        rotate_left
                        · simp only [Act.put, List.setIfInBounds_toArray, List.set_cons_zero, List.set_cons_succ, i64_w, i32_w]
                          rfl
                        refine pure_ (i := 3) (N := some 40) (v := ?_) (a' := ?_) #[true, true, true, true, false, false, false, false, false, false] rfl rfl (any_of HT_.out (by kernel_rfl)) (fun _ _ _ h => h) (Or.inl ⟨by rfl, ?_⟩) ?_ ?_
                        rotate_left
                        · intro w'
                          go_simp
                          with_reducible rfl
                        rotate_left
                        · simp only [Act.put, List.setIfInBounds_toArray, List.set_cons_zero, List.set_cons_succ, i64_w, i32_w]
                          rfl
                        refine pure_ (i := 4) (N := some 41) (v := ?_) (a' := ?_) #[true, true, true, true, true, false, false, false, false, false] rfl rfl (any_of HT_.out (by kernel_rfl)) (fun _ _ _ h => h) (Or.inl ⟨by rfl, ?_⟩) ?_ ?_
                        rotate_left
                        · intro w'
                          go_simp
                          with_reducible rfl
                        rotate_left
                        · simp only [Act.put, List.setIfInBounds_toArray, List.set_cons_zero, List.set_cons_succ, i64_w, i32_w]
                          rfl
                        refine pure_ (i := 5) (N := some 42) (v := ?_) (a' := ?_) #[true, true, true, true, true, true, false, false, false, false] rfl rfl (any_of HT_.out (by kernel_rfl)) (fun _ _ _ h => h) (Or.inl ⟨by rfl, ?_⟩) ?_ ?_
                        rotate_left
                        · intro w'
                          go_simp
                          with_reducible rfl
                        rotate_left
                        · simp only [Act.put, List.setIfInBounds_toArray, List.set_cons_zero, List.set_cons_succ, i64_w, i32_w]
                          rfl
                        refine pure_ (i := 6) (N := some 43) (v := ?_) (a' := ?_) #[true, true, true, true, true, true, true, false, false, false] rfl rfl (any_of HT_.out (by kernel_rfl)) (fun _ _ _ h => h) (Or.inl ⟨by rfl, ?_⟩) ?_ ?_
                        rotate_left
                        · intro w'
                          go_simp
                          with_reducible rfl
                        rotate_left
                        · simp only [Act.put, List.setIfInBounds_toArray, List.set_cons_zero, List.set_cons_succ, i64_w, i32_w]
                          rfl
                        refine one_ (i := 7) (N := none) #[true, true, true, true, true, true, true, true, false, false] rfl rfl (one_of HT_.out (by kernel_rfl)) (by decide) (fun K hK => ?_)
                        have hs30 : w29.cell? ⟨gb121, 1, none⟩ = some (.string (a0.extract ((ji17) : Int).toNat a0.size)) := (blk_cell BK121.out 1).trans rfl
                        have hfs30 := blk_frozen BK121.out 1
                        have hns30_0 := NB120_121.out
                        have hms30_0 := NB121_120.out
                        refine skip_ (w1 := ?_) (by rfl) rfl ?_ ?_
                        rotate_left
                        · go_simp
                          rfl
                        refine hK.out _ _ trivial (fun hHeld => ?_)
                        clear hK K
                        refine pure_ (i := 8) (N := some 44) (v := ?_) (a' := ?_) #[true, true, true, true, true, true, true, true, true, false] rfl rfl (any_of HT_.out (by kernel_rfl)) (fun _ _ _ h => h) (Or.inl ⟨by rfl, ?_⟩) ?_ ?_
                        rotate_left
                        · intro w'
                          go_simp
                          with_reducible rfl
                        rotate_left
                        · simp only [Act.put, List.setIfInBounds_toArray, List.set_cons_zero, List.set_cons_succ, i64_w, i32_w]
                          rfl
                        refine one_ (i := 9) (N := none) #[true, true, true, true, true, true, true, true, true, true] rfl rfl (one_of HT_.out (by kernel_rfl)) (by decide) (fun K hK => ?_)
                        have hs31 : w29.cell? ⟨gb121, 2, none⟩ = some (.string (⟨#[]⟩ : ByteArray)) := (blk_cell BK121.out 2).trans rfl
                        have hfs31 := blk_frozen BK121.out 2
                        have hns31_0 := NB120_121.out
                        have hms31_0 := NB121_120.out
                        refine skip_ (w1 := ?_) (by rfl) rfl ?_ ?_
                        rotate_left
                        · go_simp
                          rfl
                        refine hK.out _ _ trivial (fun hHeld => ?_)
                        clear hK K
                        refine done_ (done_of HT_.out (by kernel_rfl)) ?_
                        have hcz32_0 : w29.cell? ⟨gb121, 0, none⟩ = some (.string (a0.extract 0 (t122 : Int).toNat)) := (blk_cell BK121.out 0).trans rfl
                        have hcz32_1 : w29.cell? ⟨gb121, 1, none⟩ = some (.string (a0.extract ((ji17) : Int).toNat a0.size)) := (blk_cell BK121.out 1).trans rfl
                        have hcz32_2 : w29.cell? ⟨gb121, 2, none⟩ = some (.string (⟨#[]⟩ : ByteArray)) := (blk_cell BK121.out 2).trans rfl
                        have hfz32_0 := blk_frozen BK121.out 0
                        have hfz32_1 := blk_frozen BK121.out 1
                        have hfz32_2 := blk_frozen BK121.out 2
                        have hcz33_0 : w29.cell? ⟨gb120, 0, none⟩ = some (.string (⟨#[]⟩ : ByteArray)) := (blk_cell BK120.out 0).trans rfl
                        have hcz33_1 : w29.cell? ⟨gb120, 1, none⟩ = some (.string (⟨#[]⟩ : ByteArray)) := (blk_cell BK120.out 1).trans rfl
                        have hcz33_2 : w29.cell? ⟨gb120, 2, none⟩ = some (.string (⟨#[]⟩ : ByteArray)) := (blk_cell BK120.out 2).trans rfl
                        have hfz33_0 := blk_frozen BK120.out 0
                        have hfz33_1 := blk_frozen BK120.out 1
                        have hfz33_2 := blk_frozen BK120.out 2
                        try go_wp2
                        refine bodyPost_ret (results_cell_row rfl _ _ gb120 31 #[.string (a0.extract 0 (t122 : Int).toNat), .string ((a0.extract ((ji17) : Int).toNat a0.size).extract 0 (t124 : Int).toNat), .string ((a0.extract ((ji17) : Int).toNat a0.size).extract (t124 : Int).toNat (a0.size - ((ji17) : Int).toNat))] (0, 0) _ rfl (by (with_reducible repeat (first | refine blk_drewN ?_ _ | refine blk_drew ?_ | refine blk_alloc ?_ _)); refine blk_put (cs := #[.string (a0.extract 0 (t122 : Int).toNat), .string ((a0.extract ((ji17) : Int).toNat a0.size).extract 0 (t124 : Int).toNat), .string (⟨#[]⟩ : ByteArray)]) ?_ 2 _ rfl; (with_reducible repeat (first | refine blk_drewN ?_ _ | refine blk_drew ?_ | refine blk_alloc ?_ _)); refine blk_put (cs := #[.string (a0.extract 0 (t122 : Int).toNat), .string (⟨#[]⟩ : ByteArray), .string (⟨#[]⟩ : ByteArray)]) ?_ 1 _ rfl; (with_reducible repeat (first | refine blk_drewN ?_ _ | refine blk_drew ?_ | refine blk_alloc ?_ _)); refine blk_put (cs := #[.string (⟨#[]⟩ : ByteArray), .string (⟨#[]⟩ : ByteArray), .string (⟨#[]⟩ : ByteArray)]) ?_ 0 _ rfl; (with_reducible repeat (first | refine blk_drewN ?_ _ | refine blk_drew ?_ | refine blk_alloc ?_ _)); refine blk_far ?_ NB120_121.out _; (with_reducible repeat (first | refine blk_drewN ?_ _ | refine blk_drew ?_ | refine blk_alloc ?_ _)); refine blk_far ?_ NB120_121.out _; (with_reducible repeat (first | refine blk_drewN ?_ _ | refine blk_drew ?_ | refine blk_alloc ?_ _)); exact BK120.out) Try.underlying31 rfl (by kernel_rfl)) rfl ?_
                        exact ⟨by first | rfl | (simp [errW_none, errW_some] <;> rfl) | (simp only [← hji17]; first | rfl | (simp [errW_none, errW_some] <;> rfl)) | (simp [*, errW_none, errW_some] <;> rfl) | (simp [bne_nil_]; done), by repeat (first | (with_reducible first | exact HB.out | apply below_alloc | apply pw_below_drewN | apply below_drew1 | refine below_set ?_ GE120.out | refine below_set ?_ GE121.out) | exact HB.out)⟩
                      · rw [if_neg c23] at H
                        exact absurd H (by simp)
                    · rw [if_neg c22] at H
                      exact absurd H (by simp)
                  · rw [if_neg c21] at H
                    have c21b0 : decide (0 ≤ t124) = false := decide_eq_false c21
                    clear c21
                    simp only [Option.some.injEq, Prod.mk.injEq] at H
                    obtain ⟨rfl, rfl, rfl⟩ := H
                    have hnb34 := NB121_120.out
                    have hnc34 := NB120_121.out
                    have hcz35_0 : wc.cell? ⟨gb121, 0, none⟩ = some (.string (⟨#[48]⟩ : ByteArray)) := (blk_cell BK121.out 0).trans rfl
                    have hcz35_1 : wc.cell? ⟨gb121, 1, none⟩ = some (.string (⟨#[]⟩ : ByteArray)) := (blk_cell BK121.out 1).trans rfl
                    have hcz35_2 : wc.cell? ⟨gb121, 2, none⟩ = some (.string (⟨#[]⟩ : ByteArray)) := (blk_cell BK121.out 2).trans rfl
                    have hfz35_0 := blk_frozen BK121.out 0
                    have hfz35_1 := blk_frozen BK121.out 1
                    have hfz35_2 := blk_frozen BK121.out 2
                    go_wp2_with (first | ((with_reducible refine gate_callee (f := 34) rfl ?_); refine goesL_ (some 34) rfl rfl Try.func34 (by kernel_rfl) rfl #[.string (a0.extract ((ji17) : Int).toNat a0.size), .int .u8 45] rfl (by (try simp only [List.map_toArray, List.map_cons, List.map_nil]); first | done | (simp only [hji17]; rfl) | rfl | (simp only [List.length_drop, List.length_take]; rfl)) ?_; (with_reducible refine (spec_indexOf.calls kj2 (a0.extract ((ji17) : Int).toNat a0.size) 45 t124 _ A20.out).mono ?_); rintro e w' ⟨rfl, ⟨nd, rfl⟩⟩; refine ⟨_, rfl, ?_⟩; have hcz36_0 : wc.cell? ⟨gb120, 0, none⟩ = some (.string (⟨#[]⟩ : ByteArray)) := (blk_cell BK120.out 0).trans rfl; have hcz36_1 : wc.cell? ⟨gb120, 1, none⟩ = some (.string (⟨#[]⟩ : ByteArray)) := (blk_cell BK120.out 1).trans rfl; have hcz36_2 : wc.cell? ⟨gb120, 2, none⟩ = some (.string (⟨#[]⟩ : ByteArray)) := (blk_cell BK120.out 2).trans rfl; have hfz36_0 := blk_frozen BK120.out 0; have hfz36_1 := blk_frozen BK120.out 1; have hfz36_2 := blk_frozen BK120.out 2))
                    refine bodyPost_ret (results_cell_row rfl _ _ gb120 31 #[.string (a0.extract 0 (t122 : Int).toNat), .string (a0.extract ((ji17) : Int).toNat a0.size), .string (⟨#[]⟩ : ByteArray)] (0, 0) _ rfl (by (with_reducible repeat (first | refine blk_drewN ?_ _ | refine blk_drew ?_ | refine blk_alloc ?_ _)); refine blk_put (cs := #[.string (a0.extract 0 (t122 : Int).toNat), .string (a0.extract ((ji17) : Int).toNat a0.size), .string (⟨#[]⟩ : ByteArray)]) ?_ 2 _ rfl; (with_reducible repeat (first | refine blk_drewN ?_ _ | refine blk_drew ?_ | refine blk_alloc ?_ _)); refine blk_put (cs := #[.string (a0.extract 0 (t122 : Int).toNat), .string (⟨#[]⟩ : ByteArray), .string (⟨#[]⟩ : ByteArray)]) ?_ 1 _ rfl; (with_reducible repeat (first | refine blk_drewN ?_ _ | refine blk_drew ?_ | refine blk_alloc ?_ _)); refine blk_put (cs := #[.string (⟨#[]⟩ : ByteArray), .string (⟨#[]⟩ : ByteArray), .string (⟨#[]⟩ : ByteArray)]) ?_ 0 _ rfl; (with_reducible repeat (first | refine blk_drewN ?_ _ | refine blk_drew ?_ | refine blk_alloc ?_ _)); refine blk_far ?_ NB120_121.out _; (with_reducible repeat (first | refine blk_drewN ?_ _ | refine blk_drew ?_ | refine blk_alloc ?_ _)); refine blk_far ?_ NB120_121.out _; (with_reducible repeat (first | refine blk_drewN ?_ _ | refine blk_drew ?_ | refine blk_alloc ?_ _)); exact BK120.out) Try.underlying31 rfl (by kernel_rfl)) rfl ?_
                    exact ⟨by first | rfl | (simp [errW_none, errW_some] <;> rfl) | (simp only [← hji17]; first | rfl | (simp [errW_none, errW_some] <;> rfl)) | (simp [*, errW_none, errW_some] <;> rfl) | (simp [bne_nil_]; done), by repeat (first | (with_reducible first | exact HB.out | apply below_alloc | apply pw_below_drewN | apply below_drew1 | refine below_set ?_ GE120.out | refine below_set ?_ GE121.out) | exact HB.out)⟩
                · rw [if_neg c19] at H
                  exact absurd H (by simp)
              · rw [if_neg c18] at H
                exact absurd H (by simp)
            · rw [if_neg c16] at H
              exact absurd H (by simp)
          · rw [if_neg c15] at H
            exact absurd H (by simp)
        · rw [if_neg c14] at H
          have c14b0 : decide (0 < t122) = false := decide_eq_false c14
          clear c14
          obtain ⟨ji37, hji37⟩ : ∃ j_ : Int, (wrap64 (t122 + 1)) = j_ := ⟨_, rfl⟩
          replace H : (if 0 ≤ (ji37) then (if (ji37) ≤ (a0.size : Int) then ((spec_indexOf.f kj2 (a0.extract ((ji37) : Int).toNat a0.size) 45).bind fun t125 => (if t125 ≥ 0 then (if 0 ≤ t125 then (if t125 ≤ ((a0.extract ((ji37) : Int).toNat a0.size).size : Int) then (some ((⟨#[48]⟩ : ByteArray), (a0.extract ((ji37) : Int).toNat a0.size).extract 0 (t125 : Int).toNat, (a0.extract ((ji37) : Int).toNat a0.size).extract (t125 : Int).toNat (a0.size - ((ji37) : Int).toNat))) else (none)) else (none)) else (some ((⟨#[48]⟩ : ByteArray), a0.extract ((ji37) : Int).toNat a0.size, (⟨#[]⟩ : ByteArray))))) else (none)) else (none)) = some (r1, r2, r3) := by first | (rw [hji37] at H; exact H) | (simp only [hji37] at H ⊢; exact H)
          have hji37w : (IntKind.i64.wrap (t122 + 1)) = ji37 := (i64_w _).trans hji37
          by_cases c38 : 0 ≤ (ji37)
          · rw [if_pos c38] at H
            have c38b0 := eq_true c38
            have c38b1 : decide (0 ≤ (ji37)) = true := decide_eq_true c38
            clear c38
            by_cases c39 : (ji37) ≤ (a0.size : Int)
            · rw [if_pos c39] at H
              have c39b0 := eq_true c39
              have c39b1 : decide ((ji37) ≤ (a0.size : Int)) = true := decide_eq_true c39
              clear c39
              replace H := Option.bind_eq_some_iff.mp H
              obtain ⟨t125, A400, H⟩ := H
              replace H : (if t125 ≥ 0 then (if 0 ≤ t125 then (if t125 ≤ ((a0.extract ((ji37) : Int).toNat a0.size).size : Int) then (some ((⟨#[48]⟩ : ByteArray), (a0.extract ((ji37) : Int).toNat a0.size).extract 0 (t125 : Int).toNat, (a0.extract ((ji37) : Int).toNat a0.size).extract (t125 : Int).toNat (a0.size - ((ji37) : Int).toNat))) else (none)) else (none)) else (some ((⟨#[48]⟩ : ByteArray), a0.extract ((ji37) : Int).toNat a0.size, (⟨#[]⟩ : ByteArray)))) = some (r1, r2, r3) := H
              have A40 := Aside0.mk A400
              clear A400
              by_cases c41 : t125 ≥ 0
              · rw [if_pos c41] at H
                have c41b0 : decide (0 ≤ t125) = true := decide_eq_true c41
                clear c41
                by_cases c42 : 0 ≤ t125
                · rw [if_pos c42] at H
                  have c42b0 := eq_true c42
                  have c42b1 : decide (0 ≤ t125) = true := decide_eq_true c42
                  clear c42
                  by_cases c43 : t125 ≤ ((a0.extract ((ji37) : Int).toNat a0.size).size : Int)
                  · rw [if_pos c43] at H
                    have c43b0 := eq_true c43
                    have c43b1 : decide (t125 ≤ ((a0.extract ((ji37) : Int).toNat a0.size).size : Int)) = true := decide_eq_true c43
                    (try (have c43bz := c43; simp only [ByteArray.size_extract, Nat.min_self] at c43bz; replace c43bz := eq_true c43bz))
                    clear c43
                    have c44b0 := eq_true (of_decide_eq_true (by first | (with_reducible assumption) | assumption) : 0 ≤ t125)
                    have c45b0 := eq_true (of_decide_eq_true (by first | (with_reducible assumption) | assumption) : t125 ≤ ((a0.extract ((ji37) : Int).toNat a0.size).size : Int))
                    simp only [Option.some.injEq, Prod.mk.injEq] at H
                    obtain ⟨rfl, rfl, rfl⟩ := H
                    have hnb46 := NB121_120.out
                    have hnc46 := NB120_121.out
                    have hcz47_0 : wc.cell? ⟨gb121, 0, none⟩ = some (.string (⟨#[48]⟩ : ByteArray)) := (blk_cell BK121.out 0).trans rfl
                    have hcz47_1 : wc.cell? ⟨gb121, 1, none⟩ = some (.string (⟨#[]⟩ : ByteArray)) := (blk_cell BK121.out 1).trans rfl
                    have hcz47_2 : wc.cell? ⟨gb121, 2, none⟩ = some (.string (⟨#[]⟩ : ByteArray)) := (blk_cell BK121.out 2).trans rfl
                    have hfz47_0 := blk_frozen BK121.out 0
                    have hfz47_1 := blk_frozen BK121.out 1
                    have hfz47_2 := blk_frozen BK121.out 2
                    try go_wp2_with (first | ((with_reducible refine gate_callee (f := 34) rfl ?_); refine goesL_ (some 34) rfl rfl Try.func34 (by kernel_rfl) rfl #[.string (a0.extract ((ji37) : Int).toNat a0.size), .int .u8 45] rfl (by (try simp only [List.map_toArray, List.map_cons, List.map_nil]); first | done | (simp only [hji37]; rfl) | rfl | (simp only [List.length_drop, List.length_take]; rfl)) ?_; (with_reducible refine (spec_indexOf.calls kj2 (a0.extract ((ji37) : Int).toNat a0.size) 45 t125 _ A40.out).mono ?_); rintro e w' ⟨rfl, ⟨nd, rfl⟩⟩; refine ⟨_, rfl, ?_⟩))
                    have n0_ : Aside0 ((wc.setCell ⟨gb121, 1, none⟩ (.string (a0.extract ((ji37) : Int).toNat a0.size))).heap[gb120]? = some (.cells #[.string (⟨#[]⟩ : ByteArray), .string (⟨#[]⟩ : ByteArray), .string (⟨#[]⟩ : ByteArray)] 31 (0, 0))) := ⟨by (with_reducible repeat (first | refine blk_drewN ?_ _ | refine blk_drew ?_ | refine blk_alloc ?_ _)); refine blk_far ?_ NB120_121.out _; (with_reducible repeat (first | refine blk_drewN ?_ _ | refine blk_drew ?_ | refine blk_alloc ?_ _)); exact BK120.out⟩
                    have n1_ : Aside0 ((wc.setCell ⟨gb121, 1, none⟩ (.string (a0.extract ((ji37) : Int).toNat a0.size))).heap[gb121]? = some (.cells #[.string (⟨#[48]⟩ : ByteArray), .string (a0.extract ((ji37) : Int).toNat a0.size), .string (⟨#[]⟩ : ByteArray)] 31 (0, 0))) := ⟨by (with_reducible repeat (first | refine blk_drewN ?_ _ | refine blk_drew ?_ | refine blk_alloc ?_ _)); refine blk_put (cs := #[.string (⟨#[48]⟩ : ByteArray), .string (⟨#[]⟩ : ByteArray), .string (⟨#[]⟩ : ByteArray)]) ?_ 1 _ rfl; (with_reducible repeat (first | refine blk_drewN ?_ _ | refine blk_drew ?_ | refine blk_alloc ?_ _)); exact BK121.out⟩
                    have n2_ : Aside0 (Below w.heap.size w (wc.setCell ⟨gb121, 1, none⟩ (.string (a0.extract ((ji37) : Int).toNat a0.size)))) := ⟨by repeat (first | (with_reducible first | exact HB.out | apply below_alloc | apply pw_below_drewN | apply below_drew1 | refine below_set ?_ GE120.out | refine below_set ?_ GE121.out) | exact HB.out)⟩
                    (try clear BK120)
                    (try clear BK121)
                    (try clear HB)
                    generalize (wc.setCell ⟨gb121, 1, none⟩ (.string (a0.extract ((ji37) : Int).toNat a0.size))) = w48 at n0_ n1_ n2_ ⊢
                    have BK120 := n0_
                    have BK121 := n1_
                    have HB := n2_
                    clear n0_ n1_ n2_
                    (try (rw [drewN_self w48]; generalize hq_ : World.drewN w48 _ = w48; have n0_ : Aside0 (w48.heap[gb120]? = some (.cells #[.string (⟨#[]⟩ : ByteArray), .string (⟨#[]⟩ : ByteArray), .string (⟨#[]⟩ : ByteArray)] 31 (0, 0))) := ⟨by rw [← hq_]; exact (by (with_reducible repeat (first | refine blk_drewN ?_ _ | refine blk_drew ?_ | refine blk_alloc ?_ _)); exact BK120.out)⟩; have n1_ : Aside0 (w48.heap[gb121]? = some (.cells #[.string (⟨#[48]⟩ : ByteArray), .string (a0.extract ((ji37) : Int).toNat a0.size), .string (⟨#[]⟩ : ByteArray)] 31 (0, 0))) := ⟨by rw [← hq_]; exact (by (with_reducible repeat (first | refine blk_drewN ?_ _ | refine blk_drew ?_ | refine blk_alloc ?_ _)); exact BK121.out)⟩; have n2_ : Aside0 (Below w.heap.size w w48) := ⟨by rw [← hq_]; exact (by repeat (first | (with_reducible first | exact HB.out | apply below_alloc | apply pw_below_drewN | apply below_drew1 | refine below_set ?_ GE120.out | refine below_set ?_ GE121.out) | exact HB.out))⟩; clear BK120 BK121 HB hq_; have BK120 := n0_; have BK121 := n1_; have HB := n2_; clear n0_ n1_ n2_))
                    have n0_ := Aside0.mk (blk_drew BK120.out)
                    have n1_ := Aside0.mk (blk_drew BK121.out)
                    have n2_ := Aside0.mk (below_drew1 HB.out)
                    clear BK120
                    clear BK121
                    clear HB
                    have BK120 := n0_
                    have BK121 := n1_
                    have HB := n2_
                    clear n0_ n1_ n2_
                    refine start_ (n := 10) (S := fun w' => True) (ds := []) #[false, false, false, false, false, false, false, false, false, false] (by kernel_rfl) rfl rfl trivial (fun hHeld => ?_); refine with_tabW spec_RedHatParse.tab10 spec_RedHatParse.bits10 (fun HT_ HW_ => ?_)
                    generalize w48.drew = w49 at BK120 BK121 HB hHeld ⊢
                    refine pure_ (i := 0) (N := some 37) (v := ?_) (a' := ?_) #[true, false, false, false, false, false, false, false, false, false] rfl rfl (any_of HT_.out (by kernel_rfl)) (fun _ _ _ h => h) (Or.inl ⟨by rfl, ?_⟩) ?_ ?_
                    rotate_left
                    · intro w'
                      go_simp
                      with_reducible rfl
                    rotate_left
                    · simp only [Act.put, List.setIfInBounds_toArray, List.set_cons_zero, List.set_cons_succ, i64_w, i32_w]
                      rfl
                    refine pure_ (i := 1) (N := some 38) (v := ?_) (a' := ?_) #[true, true, false, false, false, false, false, false, false, false] rfl rfl (any_of HT_.out (by kernel_rfl)) (fun _ _ _ h => h) (Or.inl ⟨by rfl, ?_⟩) ?_ ?_
                    rotate_left
                    · intro w'
                      go_simp
                      with_reducible rfl
                    rotate_left
                    · simp only [Act.put, List.setIfInBounds_toArray, List.set_cons_zero, List.set_cons_succ, i64_w, i32_w]
                      rfl
                    refine pure_ (i := 2) (N := some 39) (v := ?_) (a' := ?_) #[true, true, true, false, false, false, false, false, false, false] rfl rfl (any_of HT_.out (by kernel_rfl)) (fun _ _ _ h => h) (Or.inl ⟨by rfl, ?_⟩) ?_ ?_
                    rotate_left
                    · intro w'
                      go_simp
                      with_reducible rfl
                    rotate_left
                    · simp only [Act.put, List.setIfInBounds_toArray, List.set_cons_zero, List.set_cons_succ, i64_w, i32_w]
                      rfl
                    refine pure_ (i := 3) (N := some 40) (v := ?_) (a' := ?_) #[true, true, true, true, false, false, false, false, false, false] rfl rfl (any_of HT_.out (by kernel_rfl)) (fun _ _ _ h => h) (Or.inl ⟨by rfl, ?_⟩) ?_ ?_
                    rotate_left
                    · intro w'
                      go_simp
                      with_reducible rfl
                    rotate_left
                    · simp only [Act.put, List.setIfInBounds_toArray, List.set_cons_zero, List.set_cons_succ, i64_w, i32_w]
                      rfl
                    refine pure_ (i := 4) (N := some 41) (v := ?_) (a' := ?_) #[true, true, true, true, true, false, false, false, false, false] rfl rfl (any_of HT_.out (by kernel_rfl)) (fun _ _ _ h => h) (Or.inl ⟨by rfl, ?_⟩) ?_ ?_
                    rotate_left
                    · intro w'
                      go_simp
                      with_reducible rfl
                    rotate_left
                    · simp only [Act.put, List.setIfInBounds_toArray, List.set_cons_zero, List.set_cons_succ, i64_w, i32_w]
                      rfl
                    refine pure_ (i := 5) (N := some 42) (v := ?_) (a' := ?_) #[true, true, true, true, true, true, false, false, false, false] rfl rfl (any_of HT_.out (by kernel_rfl)) (fun _ _ _ h => h) (Or.inl ⟨by rfl, ?_⟩) ?_ ?_
                    rotate_left
                    · intro w'
                      go_simp
                      with_reducible rfl
                    rotate_left
                    · simp only [Act.put, List.setIfInBounds_toArray, List.set_cons_zero, List.set_cons_succ, i64_w, i32_w]
                      rfl
                    refine pure_ (i := 6) (N := some 43) (v := ?_) (a' := ?_) #[true, true, true, true, true, true, true, false, false, false] rfl rfl (any_of HT_.out (by kernel_rfl)) (fun _ _ _ h => h) (Or.inl ⟨by rfl, ?_⟩) ?_ ?_
                    rotate_left
                    · intro w'
                      go_simp
                      with_reducible rfl
                    rotate_left
                    · simp only [Act.put, List.setIfInBounds_toArray, List.set_cons_zero, List.set_cons_succ, i64_w, i32_w]
                      rfl
                    refine one_ (i := 7) (N := none) #[true, true, true, true, true, true, true, true, false, false] rfl rfl (one_of HT_.out (by kernel_rfl)) (by decide) (fun K hK => ?_)
                    have hs50 : w49.cell? ⟨gb121, 1, none⟩ = some (.string (a0.extract ((ji37) : Int).toNat a0.size)) := (blk_cell BK121.out 1).trans rfl
                    have hfs50 := blk_frozen BK121.out 1
                    have hns50_0 := NB120_121.out
                    have hms50_0 := NB121_120.out
                    refine skip_ (w1 := ?_) (by rfl) rfl ?_ ?_
                    rotate_left
                    · go_simp
                      rfl
                    refine hK.out _ _ trivial (fun hHeld => ?_)
                    clear hK K
                    refine pure_ (i := 8) (N := some 44) (v := ?_) (a' := ?_) #[true, true, true, true, true, true, true, true, true, false] rfl rfl (any_of HT_.out (by kernel_rfl)) (fun _ _ _ h => h) (Or.inl ⟨by rfl, ?_⟩) ?_ ?_
                    rotate_left
                    · intro w'
                      go_simp
                      with_reducible rfl
                    rotate_left
                    · simp only [Act.put, List.setIfInBounds_toArray, List.set_cons_zero, List.set_cons_succ, i64_w, i32_w]
                      rfl
                    refine one_ (i := 9) (N := none) #[true, true, true, true, true, true, true, true, true, true] rfl rfl (one_of HT_.out (by kernel_rfl)) (by decide) (fun K hK => ?_)
                    have hs51 : w49.cell? ⟨gb121, 2, none⟩ = some (.string (⟨#[]⟩ : ByteArray)) := (blk_cell BK121.out 2).trans rfl
                    have hfs51 := blk_frozen BK121.out 2
                    have hns51_0 := NB120_121.out
                    have hms51_0 := NB121_120.out
                    refine skip_ (w1 := ?_) (by rfl) rfl ?_ ?_
                    rotate_left
                    · go_simp
                      rfl
                    refine hK.out _ _ trivial (fun hHeld => ?_)
                    clear hK K
                    refine done_ (done_of HT_.out (by kernel_rfl)) ?_
                    have hcz52_0 : w49.cell? ⟨gb121, 0, none⟩ = some (.string (⟨#[48]⟩ : ByteArray)) := (blk_cell BK121.out 0).trans rfl
                    have hcz52_1 : w49.cell? ⟨gb121, 1, none⟩ = some (.string (a0.extract ((ji37) : Int).toNat a0.size)) := (blk_cell BK121.out 1).trans rfl
                    have hcz52_2 : w49.cell? ⟨gb121, 2, none⟩ = some (.string (⟨#[]⟩ : ByteArray)) := (blk_cell BK121.out 2).trans rfl
                    have hfz52_0 := blk_frozen BK121.out 0
                    have hfz52_1 := blk_frozen BK121.out 1
                    have hfz52_2 := blk_frozen BK121.out 2
                    have hcz53_0 : w49.cell? ⟨gb120, 0, none⟩ = some (.string (⟨#[]⟩ : ByteArray)) := (blk_cell BK120.out 0).trans rfl
                    have hcz53_1 : w49.cell? ⟨gb120, 1, none⟩ = some (.string (⟨#[]⟩ : ByteArray)) := (blk_cell BK120.out 1).trans rfl
                    have hcz53_2 : w49.cell? ⟨gb120, 2, none⟩ = some (.string (⟨#[]⟩ : ByteArray)) := (blk_cell BK120.out 2).trans rfl
                    have hfz53_0 := blk_frozen BK120.out 0
                    have hfz53_1 := blk_frozen BK120.out 1
                    have hfz53_2 := blk_frozen BK120.out 2
                    try go_wp2
                    refine bodyPost_ret (results_cell_row rfl _ _ gb120 31 #[.string (⟨#[48]⟩ : ByteArray), .string ((a0.extract ((ji37) : Int).toNat a0.size).extract 0 (t125 : Int).toNat), .string ((a0.extract ((ji37) : Int).toNat a0.size).extract (t125 : Int).toNat (a0.size - ((ji37) : Int).toNat))] (0, 0) _ rfl (by (with_reducible repeat (first | refine blk_drewN ?_ _ | refine blk_drew ?_ | refine blk_alloc ?_ _)); refine blk_put (cs := #[.string (⟨#[48]⟩ : ByteArray), .string ((a0.extract ((ji37) : Int).toNat a0.size).extract 0 (t125 : Int).toNat), .string (⟨#[]⟩ : ByteArray)]) ?_ 2 _ rfl; (with_reducible repeat (first | refine blk_drewN ?_ _ | refine blk_drew ?_ | refine blk_alloc ?_ _)); refine blk_put (cs := #[.string (⟨#[48]⟩ : ByteArray), .string (⟨#[]⟩ : ByteArray), .string (⟨#[]⟩ : ByteArray)]) ?_ 1 _ rfl; (with_reducible repeat (first | refine blk_drewN ?_ _ | refine blk_drew ?_ | refine blk_alloc ?_ _)); refine blk_put (cs := #[.string (⟨#[]⟩ : ByteArray), .string (⟨#[]⟩ : ByteArray), .string (⟨#[]⟩ : ByteArray)]) ?_ 0 _ rfl; (with_reducible repeat (first | refine blk_drewN ?_ _ | refine blk_drew ?_ | refine blk_alloc ?_ _)); refine blk_far ?_ NB120_121.out _; (with_reducible repeat (first | refine blk_drewN ?_ _ | refine blk_drew ?_ | refine blk_alloc ?_ _)); refine blk_far ?_ NB120_121.out _; (with_reducible repeat (first | refine blk_drewN ?_ _ | refine blk_drew ?_ | refine blk_alloc ?_ _)); exact BK120.out) Try.underlying31 rfl (by kernel_rfl)) rfl ?_
                    exact ⟨by first | rfl | (simp [errW_none, errW_some] <;> rfl) | (simp only [← hji37]; first | rfl | (simp [errW_none, errW_some] <;> rfl)) | (simp [*, errW_none, errW_some] <;> rfl) | (simp [bne_nil_]; done), by repeat (first | (with_reducible first | exact HB.out | apply below_alloc | apply pw_below_drewN | apply below_drew1 | refine below_set ?_ GE120.out | refine below_set ?_ GE121.out) | exact HB.out)⟩
                  · rw [if_neg c43] at H
                    exact absurd H (by simp)
                · rw [if_neg c42] at H
                  exact absurd H (by simp)
              · rw [if_neg c41] at H
                have c41b0 : decide (0 ≤ t125) = false := decide_eq_false c41
                clear c41
                simp only [Option.some.injEq, Prod.mk.injEq] at H
                obtain ⟨rfl, rfl, rfl⟩ := H
                have hnb54 := NB121_120.out
                have hnc54 := NB120_121.out
                have hcz55_0 : wc.cell? ⟨gb121, 0, none⟩ = some (.string (⟨#[48]⟩ : ByteArray)) := (blk_cell BK121.out 0).trans rfl
                have hcz55_1 : wc.cell? ⟨gb121, 1, none⟩ = some (.string (⟨#[]⟩ : ByteArray)) := (blk_cell BK121.out 1).trans rfl
                have hcz55_2 : wc.cell? ⟨gb121, 2, none⟩ = some (.string (⟨#[]⟩ : ByteArray)) := (blk_cell BK121.out 2).trans rfl
                have hfz55_0 := blk_frozen BK121.out 0
                have hfz55_1 := blk_frozen BK121.out 1
                have hfz55_2 := blk_frozen BK121.out 2
                go_wp2_with (first | ((with_reducible refine gate_callee (f := 34) rfl ?_); refine goesL_ (some 34) rfl rfl Try.func34 (by kernel_rfl) rfl #[.string (a0.extract ((ji37) : Int).toNat a0.size), .int .u8 45] rfl (by (try simp only [List.map_toArray, List.map_cons, List.map_nil]); first | done | (simp only [hji37]; rfl) | rfl | (simp only [List.length_drop, List.length_take]; rfl)) ?_; (with_reducible refine (spec_indexOf.calls kj2 (a0.extract ((ji37) : Int).toNat a0.size) 45 t125 _ A40.out).mono ?_); rintro e w' ⟨rfl, ⟨nd, rfl⟩⟩; refine ⟨_, rfl, ?_⟩; have hcz56_0 : wc.cell? ⟨gb120, 0, none⟩ = some (.string (⟨#[]⟩ : ByteArray)) := (blk_cell BK120.out 0).trans rfl; have hcz56_1 : wc.cell? ⟨gb120, 1, none⟩ = some (.string (⟨#[]⟩ : ByteArray)) := (blk_cell BK120.out 1).trans rfl; have hcz56_2 : wc.cell? ⟨gb120, 2, none⟩ = some (.string (⟨#[]⟩ : ByteArray)) := (blk_cell BK120.out 2).trans rfl; have hfz56_0 := blk_frozen BK120.out 0; have hfz56_1 := blk_frozen BK120.out 1; have hfz56_2 := blk_frozen BK120.out 2))
                refine bodyPost_ret (results_cell_row rfl _ _ gb120 31 #[.string (⟨#[48]⟩ : ByteArray), .string (a0.extract ((ji37) : Int).toNat a0.size), .string (⟨#[]⟩ : ByteArray)] (0, 0) _ rfl (by (with_reducible repeat (first | refine blk_drewN ?_ _ | refine blk_drew ?_ | refine blk_alloc ?_ _)); refine blk_put (cs := #[.string (⟨#[48]⟩ : ByteArray), .string (a0.extract ((ji37) : Int).toNat a0.size), .string (⟨#[]⟩ : ByteArray)]) ?_ 2 _ rfl; (with_reducible repeat (first | refine blk_drewN ?_ _ | refine blk_drew ?_ | refine blk_alloc ?_ _)); refine blk_put (cs := #[.string (⟨#[48]⟩ : ByteArray), .string (⟨#[]⟩ : ByteArray), .string (⟨#[]⟩ : ByteArray)]) ?_ 1 _ rfl; (with_reducible repeat (first | refine blk_drewN ?_ _ | refine blk_drew ?_ | refine blk_alloc ?_ _)); refine blk_put (cs := #[.string (⟨#[]⟩ : ByteArray), .string (⟨#[]⟩ : ByteArray), .string (⟨#[]⟩ : ByteArray)]) ?_ 0 _ rfl; (with_reducible repeat (first | refine blk_drewN ?_ _ | refine blk_drew ?_ | refine blk_alloc ?_ _)); refine blk_far ?_ NB120_121.out _; (with_reducible repeat (first | refine blk_drewN ?_ _ | refine blk_drew ?_ | refine blk_alloc ?_ _)); exact BK120.out) Try.underlying31 rfl (by kernel_rfl)) rfl ?_
                exact ⟨by first | rfl | (simp [errW_none, errW_some] <;> rfl) | (simp only [← hji37]; first | rfl | (simp [errW_none, errW_some] <;> rfl)) | (simp [*, errW_none, errW_some] <;> rfl) | (simp [bne_nil_]; done), by repeat (first | (with_reducible first | exact HB.out | apply below_alloc | apply pw_below_drewN | apply below_drew1 | refine below_set ?_ GE120.out | refine below_set ?_ GE121.out) | exact HB.out)⟩
            · rw [if_neg c39] at H
              exact absurd H (by simp)
          · rw [if_neg c38] at H
            exact absurd H (by simp)
      · replace c13 := Bool.eq_false_iff.mpr c13
        subst c13
        have H1 : ((spec_indexOf.f kj2 a0 45).bind fun t126 => (if t126 ≥ 0 then (if 0 ≤ t126 then (if t126 ≤ (a0.size : Int) then (some ((⟨#[48]⟩ : ByteArray), a0.extract 0 (t126 : Int).toNat, a0.extract (t126 : Int).toNat a0.size)) else (none)) else (none)) else (some ((⟨#[48]⟩ : ByteArray), a0, (⟨#[]⟩ : ByteArray))))) = some (r1, r2, r3) := by rw [if_neg (show ¬ (false = true) by decide)] at H; exact H
        clear H
        have H := H1
        clear H1
        replace H := Option.bind_eq_some_iff.mp H
        obtain ⟨t126, A570, H⟩ := H
        replace H : (if t126 ≥ 0 then (if 0 ≤ t126 then (if t126 ≤ (a0.size : Int) then (some ((⟨#[48]⟩ : ByteArray), a0.extract 0 (t126 : Int).toNat, a0.extract (t126 : Int).toNat a0.size)) else (none)) else (none)) else (some ((⟨#[48]⟩ : ByteArray), a0, (⟨#[]⟩ : ByteArray)))) = some (r1, r2, r3) := H
        have A57 := Aside0.mk A570
        clear A570
        by_cases c58 : t126 ≥ 0
        · rw [if_pos c58] at H
          have c58b0 : decide (0 ≤ t126) = true := decide_eq_true c58
          clear c58
          by_cases c59 : 0 ≤ t126
          · rw [if_pos c59] at H
            have c59b0 := eq_true c59
            have c59b1 : decide (0 ≤ t126) = true := decide_eq_true c59
            clear c59
            by_cases c60 : t126 ≤ (a0.size : Int)
            · rw [if_pos c60] at H
              have c60b0 := eq_true c60
              have c60b1 : decide (t126 ≤ (a0.size : Int)) = true := decide_eq_true c60
              clear c60
              have c61b0 := eq_true (of_decide_eq_true (by first | (with_reducible assumption) | assumption) : 0 ≤ t126)
              have c62b0 := eq_true (of_decide_eq_true (by first | (with_reducible assumption) | assumption) : t126 ≤ (a0.size : Int))
              simp only [Option.some.injEq, Prod.mk.injEq] at H
              obtain ⟨rfl, rfl, rfl⟩ := H
              have hnb63 := NB121_120.out
              have hnc63 := NB120_121.out
              have hcz64_0 : wc.cell? ⟨gb121, 0, none⟩ = some (.string (⟨#[48]⟩ : ByteArray)) := (blk_cell BK121.out 0).trans rfl
              have hcz64_1 : wc.cell? ⟨gb121, 1, none⟩ = some (.string (⟨#[]⟩ : ByteArray)) := (blk_cell BK121.out 1).trans rfl
              have hcz64_2 : wc.cell? ⟨gb121, 2, none⟩ = some (.string (⟨#[]⟩ : ByteArray)) := (blk_cell BK121.out 2).trans rfl
              have hfz64_0 := blk_frozen BK121.out 0
              have hfz64_1 := blk_frozen BK121.out 1
              have hfz64_2 := blk_frozen BK121.out 2
              try go_wp2_with (first | ((with_reducible refine gate_callee (f := 34) rfl ?_); refine goesL_ (some 34) rfl rfl Try.func34 (by kernel_rfl) rfl #[.string a0, .int .u8 45] rfl (by (try simp only [List.map_toArray, List.map_cons, List.map_nil]); first | done | rfl | (simp only [List.length_drop, List.length_take]; rfl)) ?_; (with_reducible refine (spec_indexOf.calls kj2 a0 45 t126 _ A57.out).mono ?_); rintro e w' ⟨rfl, ⟨nd, rfl⟩⟩; refine ⟨_, rfl, ?_⟩))
              have n0_ : Aside0 ((wc.setCell ⟨gb121, 1, none⟩ (.string a0)).heap[gb120]? = some (.cells #[.string (⟨#[]⟩ : ByteArray), .string (⟨#[]⟩ : ByteArray), .string (⟨#[]⟩ : ByteArray)] 31 (0, 0))) := ⟨by (with_reducible repeat (first | refine blk_drewN ?_ _ | refine blk_drew ?_ | refine blk_alloc ?_ _)); refine blk_far ?_ NB120_121.out _; (with_reducible repeat (first | refine blk_drewN ?_ _ | refine blk_drew ?_ | refine blk_alloc ?_ _)); exact BK120.out⟩
              have n1_ : Aside0 ((wc.setCell ⟨gb121, 1, none⟩ (.string a0)).heap[gb121]? = some (.cells #[.string (⟨#[48]⟩ : ByteArray), .string a0, .string (⟨#[]⟩ : ByteArray)] 31 (0, 0))) := ⟨by (with_reducible repeat (first | refine blk_drewN ?_ _ | refine blk_drew ?_ | refine blk_alloc ?_ _)); refine blk_put (cs := #[.string (⟨#[48]⟩ : ByteArray), .string (⟨#[]⟩ : ByteArray), .string (⟨#[]⟩ : ByteArray)]) ?_ 1 _ rfl; (with_reducible repeat (first | refine blk_drewN ?_ _ | refine blk_drew ?_ | refine blk_alloc ?_ _)); exact BK121.out⟩
              have n2_ : Aside0 (Below w.heap.size w (wc.setCell ⟨gb121, 1, none⟩ (.string a0))) := ⟨by repeat (first | (with_reducible first | exact HB.out | apply below_alloc | apply pw_below_drewN | apply below_drew1 | refine below_set ?_ GE120.out | refine below_set ?_ GE121.out) | exact HB.out)⟩
              (try clear BK120)
              (try clear BK121)
              (try clear HB)
              generalize (wc.setCell ⟨gb121, 1, none⟩ (.string a0)) = w65 at n0_ n1_ n2_ ⊢
              have BK120 := n0_
              have BK121 := n1_
              have HB := n2_
              clear n0_ n1_ n2_
              (try (rw [drewN_self w65]; generalize hq_ : World.drewN w65 _ = w65; have n0_ : Aside0 (w65.heap[gb120]? = some (.cells #[.string (⟨#[]⟩ : ByteArray), .string (⟨#[]⟩ : ByteArray), .string (⟨#[]⟩ : ByteArray)] 31 (0, 0))) := ⟨by rw [← hq_]; exact (by (with_reducible repeat (first | refine blk_drewN ?_ _ | refine blk_drew ?_ | refine blk_alloc ?_ _)); exact BK120.out)⟩; have n1_ : Aside0 (w65.heap[gb121]? = some (.cells #[.string (⟨#[48]⟩ : ByteArray), .string a0, .string (⟨#[]⟩ : ByteArray)] 31 (0, 0))) := ⟨by rw [← hq_]; exact (by (with_reducible repeat (first | refine blk_drewN ?_ _ | refine blk_drew ?_ | refine blk_alloc ?_ _)); exact BK121.out)⟩; have n2_ : Aside0 (Below w.heap.size w w65) := ⟨by rw [← hq_]; exact (by repeat (first | (with_reducible first | exact HB.out | apply below_alloc | apply pw_below_drewN | apply below_drew1 | refine below_set ?_ GE120.out | refine below_set ?_ GE121.out) | exact HB.out))⟩; clear BK120 BK121 HB hq_; have BK120 := n0_; have BK121 := n1_; have HB := n2_; clear n0_ n1_ n2_))
              have n0_ := Aside0.mk (blk_drew BK120.out)
              have n1_ := Aside0.mk (blk_drew BK121.out)
              have n2_ := Aside0.mk (below_drew1 HB.out)
              clear BK120
              clear BK121
              clear HB
              have BK120 := n0_
              have BK121 := n1_
              have HB := n2_
              clear n0_ n1_ n2_
              refine start_ (n := 10) (S := fun w' => True) (ds := []) #[false, false, false, false, false, false, false, false, false, false] (by kernel_rfl) rfl rfl trivial (fun hHeld => ?_); refine with_tabW spec_RedHatParse.tab10 spec_RedHatParse.bits10 (fun HT_ HW_ => ?_)
              generalize w65.drew = w66 at BK120 BK121 HB hHeld ⊢
              refine pure_ (i := 0) (N := some 37) (v := ?_) (a' := ?_) #[true, false, false, false, false, false, false, false, false, false] rfl rfl (any_of HT_.out (by kernel_rfl)) (fun _ _ _ h => h) (Or.inl ⟨by rfl, ?_⟩) ?_ ?_
              rotate_left
              · intro w'
                go_simp
                with_reducible rfl
              rotate_left
              · simp only [Act.put, List.setIfInBounds_toArray, List.set_cons_zero, List.set_cons_succ, i64_w, i32_w]
                rfl
              refine pure_ (i := 1) (N := some 38) (v := ?_) (a' := ?_) #[true, true, false, false, false, false, false, false, false, false] rfl rfl (any_of HT_.out (by kernel_rfl)) (fun _ _ _ h => h) (Or.inl ⟨by rfl, ?_⟩) ?_ ?_
              rotate_left
              · intro w'
                go_simp
                with_reducible rfl
              rotate_left
              · simp only [Act.put, List.setIfInBounds_toArray, List.set_cons_zero, List.set_cons_succ, i64_w, i32_w]
                rfl
              refine pure_ (i := 2) (N := some 39) (v := ?_) (a' := ?_) #[true, true, true, false, false, false, false, false, false, false] rfl rfl (any_of HT_.out (by kernel_rfl)) (fun _ _ _ h => h) (Or.inl ⟨by rfl, ?_⟩) ?_ ?_
              rotate_left
              · intro w'
                go_simp
                with_reducible rfl
              rotate_left
              · simp only [Act.put, List.setIfInBounds_toArray, List.set_cons_zero, List.set_cons_succ, i64_w, i32_w]
                rfl
              refine pure_ (i := 3) (N := some 40) (v := ?_) (a' := ?_) #[true, true, true, true, false, false, false, false, false, false] rfl rfl (any_of HT_.out (by kernel_rfl)) (fun _ _ _ h => h) (Or.inl ⟨by rfl, ?_⟩) ?_ ?_
              rotate_left
              · intro w'
                go_simp
                with_reducible rfl
              rotate_left
              · simp only [Act.put, List.setIfInBounds_toArray, List.set_cons_zero, List.set_cons_succ, i64_w, i32_w]
                rfl
              refine pure_ (i := 4) (N := some 41) (v := ?_) (a' := ?_) #[true, true, true, true, true, false, false, false, false, false] rfl rfl (any_of HT_.out (by kernel_rfl)) (fun _ _ _ h => h) (Or.inl ⟨by rfl, ?_⟩) ?_ ?_
              rotate_left
              · intro w'
                go_simp
                with_reducible rfl
              rotate_left
              · simp only [Act.put, List.setIfInBounds_toArray, List.set_cons_zero, List.set_cons_succ, i64_w, i32_w]
                rfl
              refine pure_ (i := 5) (N := some 42) (v := ?_) (a' := ?_) #[true, true, true, true, true, true, false, false, false, false] rfl rfl (any_of HT_.out (by kernel_rfl)) (fun _ _ _ h => h) (Or.inl ⟨by rfl, ?_⟩) ?_ ?_
              rotate_left
              · intro w'
                go_simp
                with_reducible rfl
              rotate_left
              · simp only [Act.put, List.setIfInBounds_toArray, List.set_cons_zero, List.set_cons_succ, i64_w, i32_w]
                rfl
              refine pure_ (i := 6) (N := some 43) (v := ?_) (a' := ?_) #[true, true, true, true, true, true, true, false, false, false] rfl rfl (any_of HT_.out (by kernel_rfl)) (fun _ _ _ h => h) (Or.inl ⟨by rfl, ?_⟩) ?_ ?_
              rotate_left
              · intro w'
                go_simp
                with_reducible rfl
              rotate_left
              · simp only [Act.put, List.setIfInBounds_toArray, List.set_cons_zero, List.set_cons_succ, i64_w, i32_w]
                rfl
              refine one_ (i := 7) (N := none) #[true, true, true, true, true, true, true, true, false, false] rfl rfl (one_of HT_.out (by kernel_rfl)) (by decide) (fun K hK => ?_)
              have hs67 : w66.cell? ⟨gb121, 1, none⟩ = some (.string a0) := (blk_cell BK121.out 1).trans rfl
              have hfs67 := blk_frozen BK121.out 1
              have hns67_0 := NB120_121.out
              have hms67_0 := NB121_120.out
              refine skip_ (w1 := ?_) (by rfl) rfl ?_ ?_
              rotate_left
              · go_simp
                rfl
              refine hK.out _ _ trivial (fun hHeld => ?_)
              clear hK K
              refine pure_ (i := 8) (N := some 44) (v := ?_) (a' := ?_) #[true, true, true, true, true, true, true, true, true, false] rfl rfl (any_of HT_.out (by kernel_rfl)) (fun _ _ _ h => h) (Or.inl ⟨by rfl, ?_⟩) ?_ ?_
              rotate_left
              · intro w'
                go_simp
                with_reducible rfl
              rotate_left
              · simp only [Act.put, List.setIfInBounds_toArray, List.set_cons_zero, List.set_cons_succ, i64_w, i32_w]
                rfl
              refine one_ (i := 9) (N := none) #[true, true, true, true, true, true, true, true, true, true] rfl rfl (one_of HT_.out (by kernel_rfl)) (by decide) (fun K hK => ?_)
              have hs68 : w66.cell? ⟨gb121, 2, none⟩ = some (.string (⟨#[]⟩ : ByteArray)) := (blk_cell BK121.out 2).trans rfl
              have hfs68 := blk_frozen BK121.out 2
              have hns68_0 := NB120_121.out
              have hms68_0 := NB121_120.out
              refine skip_ (w1 := ?_) (by rfl) rfl ?_ ?_
              rotate_left
              · go_simp
                rfl
              refine hK.out _ _ trivial (fun hHeld => ?_)
              clear hK K
              refine done_ (done_of HT_.out (by kernel_rfl)) ?_
              have hcz69_0 : w66.cell? ⟨gb121, 0, none⟩ = some (.string (⟨#[48]⟩ : ByteArray)) := (blk_cell BK121.out 0).trans rfl
              have hcz69_1 : w66.cell? ⟨gb121, 1, none⟩ = some (.string a0) := (blk_cell BK121.out 1).trans rfl
              have hcz69_2 : w66.cell? ⟨gb121, 2, none⟩ = some (.string (⟨#[]⟩ : ByteArray)) := (blk_cell BK121.out 2).trans rfl
              have hfz69_0 := blk_frozen BK121.out 0
              have hfz69_1 := blk_frozen BK121.out 1
              have hfz69_2 := blk_frozen BK121.out 2
              have hcz70_0 : w66.cell? ⟨gb120, 0, none⟩ = some (.string (⟨#[]⟩ : ByteArray)) := (blk_cell BK120.out 0).trans rfl
              have hcz70_1 : w66.cell? ⟨gb120, 1, none⟩ = some (.string (⟨#[]⟩ : ByteArray)) := (blk_cell BK120.out 1).trans rfl
              have hcz70_2 : w66.cell? ⟨gb120, 2, none⟩ = some (.string (⟨#[]⟩ : ByteArray)) := (blk_cell BK120.out 2).trans rfl
              have hfz70_0 := blk_frozen BK120.out 0
              have hfz70_1 := blk_frozen BK120.out 1
              have hfz70_2 := blk_frozen BK120.out 2
              try go_wp2
              refine bodyPost_ret (results_cell_row rfl _ _ gb120 31 #[.string (⟨#[48]⟩ : ByteArray), .string (a0.extract 0 (t126 : Int).toNat), .string (a0.extract (t126 : Int).toNat a0.size)] (0, 0) _ rfl (by (with_reducible repeat (first | refine blk_drewN ?_ _ | refine blk_drew ?_ | refine blk_alloc ?_ _)); refine blk_put (cs := #[.string (⟨#[48]⟩ : ByteArray), .string (a0.extract 0 (t126 : Int).toNat), .string (⟨#[]⟩ : ByteArray)]) ?_ 2 _ rfl; (with_reducible repeat (first | refine blk_drewN ?_ _ | refine blk_drew ?_ | refine blk_alloc ?_ _)); refine blk_put (cs := #[.string (⟨#[48]⟩ : ByteArray), .string (⟨#[]⟩ : ByteArray), .string (⟨#[]⟩ : ByteArray)]) ?_ 1 _ rfl; (with_reducible repeat (first | refine blk_drewN ?_ _ | refine blk_drew ?_ | refine blk_alloc ?_ _)); refine blk_put (cs := #[.string (⟨#[]⟩ : ByteArray), .string (⟨#[]⟩ : ByteArray), .string (⟨#[]⟩ : ByteArray)]) ?_ 0 _ rfl; (with_reducible repeat (first | refine blk_drewN ?_ _ | refine blk_drew ?_ | refine blk_alloc ?_ _)); refine blk_far ?_ NB120_121.out _; (with_reducible repeat (first | refine blk_drewN ?_ _ | refine blk_drew ?_ | refine blk_alloc ?_ _)); refine blk_far ?_ NB120_121.out _; (with_reducible repeat (first | refine blk_drewN ?_ _ | refine blk_drew ?_ | refine blk_alloc ?_ _)); exact BK120.out) Try.underlying31 rfl (by kernel_rfl)) rfl ?_
              exact ⟨by first | rfl | (simp [errW_none, errW_some] <;> rfl) | (simp [*, errW_none, errW_some] <;> rfl) | (simp [bne_nil_]; done), by repeat (first | (with_reducible first | exact HB.out | apply below_alloc | apply pw_below_drewN | apply below_drew1 | refine below_set ?_ GE120.out | refine below_set ?_ GE121.out) | exact HB.out)⟩
            · rw [if_neg c60] at H
              exact absurd H (by simp)
          · rw [if_neg c59] at H
            exact absurd H (by simp)
        · rw [if_neg c58] at H
          have c58b0 : decide (0 ≤ t126) = false := decide_eq_false c58
          clear c58
          simp only [Option.some.injEq, Prod.mk.injEq] at H
          obtain ⟨rfl, rfl, rfl⟩ := H
          have hnb71 := NB121_120.out
          have hnc71 := NB120_121.out
          have hcz72_0 : wc.cell? ⟨gb121, 0, none⟩ = some (.string (⟨#[48]⟩ : ByteArray)) := (blk_cell BK121.out 0).trans rfl
          have hcz72_1 : wc.cell? ⟨gb121, 1, none⟩ = some (.string (⟨#[]⟩ : ByteArray)) := (blk_cell BK121.out 1).trans rfl
          have hcz72_2 : wc.cell? ⟨gb121, 2, none⟩ = some (.string (⟨#[]⟩ : ByteArray)) := (blk_cell BK121.out 2).trans rfl
          have hfz72_0 := blk_frozen BK121.out 0
          have hfz72_1 := blk_frozen BK121.out 1
          have hfz72_2 := blk_frozen BK121.out 2
          go_wp2_with (first | ((with_reducible refine gate_callee (f := 34) rfl ?_); refine goesL_ (some 34) rfl rfl Try.func34 (by kernel_rfl) rfl #[.string a0, .int .u8 45] rfl (by (try simp only [List.map_toArray, List.map_cons, List.map_nil]); first | done | rfl | (simp only [List.length_drop, List.length_take]; rfl)) ?_; (with_reducible refine (spec_indexOf.calls kj2 a0 45 t126 _ A57.out).mono ?_); rintro e w' ⟨rfl, ⟨nd, rfl⟩⟩; refine ⟨_, rfl, ?_⟩; have hcz73_0 : wc.cell? ⟨gb120, 0, none⟩ = some (.string (⟨#[]⟩ : ByteArray)) := (blk_cell BK120.out 0).trans rfl; have hcz73_1 : wc.cell? ⟨gb120, 1, none⟩ = some (.string (⟨#[]⟩ : ByteArray)) := (blk_cell BK120.out 1).trans rfl; have hcz73_2 : wc.cell? ⟨gb120, 2, none⟩ = some (.string (⟨#[]⟩ : ByteArray)) := (blk_cell BK120.out 2).trans rfl; have hfz73_0 := blk_frozen BK120.out 0; have hfz73_1 := blk_frozen BK120.out 1; have hfz73_2 := blk_frozen BK120.out 2))
          refine bodyPost_ret (results_cell_row rfl _ _ gb120 31 #[.string (⟨#[48]⟩ : ByteArray), .string a0, .string (⟨#[]⟩ : ByteArray)] (0, 0) _ rfl (by (with_reducible repeat (first | refine blk_drewN ?_ _ | refine blk_drew ?_ | refine blk_alloc ?_ _)); refine blk_put (cs := #[.string (⟨#[48]⟩ : ByteArray), .string a0, .string (⟨#[]⟩ : ByteArray)]) ?_ 2 _ rfl; (with_reducible repeat (first | refine blk_drewN ?_ _ | refine blk_drew ?_ | refine blk_alloc ?_ _)); refine blk_put (cs := #[.string (⟨#[48]⟩ : ByteArray), .string (⟨#[]⟩ : ByteArray), .string (⟨#[]⟩ : ByteArray)]) ?_ 1 _ rfl; (with_reducible repeat (first | refine blk_drewN ?_ _ | refine blk_drew ?_ | refine blk_alloc ?_ _)); refine blk_put (cs := #[.string (⟨#[]⟩ : ByteArray), .string (⟨#[]⟩ : ByteArray), .string (⟨#[]⟩ : ByteArray)]) ?_ 0 _ rfl; (with_reducible repeat (first | refine blk_drewN ?_ _ | refine blk_drew ?_ | refine blk_alloc ?_ _)); refine blk_far ?_ NB120_121.out _; (with_reducible repeat (first | refine blk_drewN ?_ _ | refine blk_drew ?_ | refine blk_alloc ?_ _)); exact BK120.out) Try.underlying31 rfl (by kernel_rfl)) rfl ?_
          exact ⟨by first | rfl | (simp [errW_none, errW_some] <;> rfl) | (simp [*, errW_none, errW_some] <;> rfl) | (simp [bne_nil_]; done), by repeat (first | (with_reducible first | exact HB.out | apply below_alloc | apply pw_below_drewN | apply below_drew1 | refine below_set ?_ GE120.out | refine below_set ?_ GE121.out) | exact HB.out)⟩

end Go.Proofs.Ytojabknjniihmaa.QA
