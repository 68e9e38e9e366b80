-- Written by a working copy of the kit's print program, turned at a few places by wip/tool/mkprint.py. Lean checks it.
import Derived.Test.YtkecmlpihnjjgaaDoorQLx0
import Derived.Test.YtkecmlpihnjjgaaDoorQLx1
namespace Go.Proofs.YtkecmlpihnjjgaaDoor.QL
open Go.RowKit Go.Proofs.YtkecmlpihnjjgaaDoorW.PrintWords Go.Proofs.YtkecmlpihnjjgaaDoorW.PrintLast Go.Proofs.YtkecmlpihnjjgaaDoorW.PrintMore
attribute [local go_sem] max2_int min2_int max_two min_two max_three min_three max_four min_four   -- for this text's walks alone
set_option linter.unusedVariables false
set_option linter.unusedSimpArgs false

/-! ### spec_TokenOrder: function 26 -/
mutual
def spec_TokenOrder.j0 : Nat → Bool → Bool → ByteArray → ByteArray → Bool → Option (Int × Bool)
  | 0, _, _, _, _, _ => none
  | k + 1, x4, x8, x126000, x126001, x126002 => if x8 = true then (some (3, true)) else (if x126000.toList = ([46] : List UInt8) then (spec_TokenOrder.j1 k x4 (!x4) x126000 x126001 x126002) else (spec_TokenOrder.j1 k x4 false x126000 x126001 x126002))
def spec_TokenOrder.j1 : Nat → Bool → Bool → ByteArray → ByteArray → Bool → Option (Int × Bool)
  | 0, _, _, _, _, _ => none
  | k + 1, x4, x15, x126000, x126001, x126002 => if x15 = true then (some (0, true)) else (if x126000.toList = ([45] : List UInt8) then (spec_TokenOrder.j2 k x4 x126000 x126001 x126002) else (spec_TokenOrder.j2 k false x126000 x126001 x126002))
def spec_TokenOrder.j2 : Nat → Bool → ByteArray → ByteArray → Bool → Option (Int × Bool)
  | 0, _, _, _, _ => none
  | k + 1, x23, x126000, x126001, x126002 => if x23 = true then (some (2, true)) else (if x126000.toList = ([45] : List UInt8) then (some (1, true)) else (some (0, false)))
end
def spec_TokenOrder.f (k : Nat) (a0_0 : ByteArray) (a0_1 : ByteArray) (a0_2 : Bool) : Option (Int × Bool) := (spec_allDigits.f k a0_1).bind fun t126 => (if a0_0.toList = ([46] : List UInt8) then (spec_TokenOrder.j0 k t126 t126 a0_0 a0_1 a0_2) else (spec_TokenOrder.j0 k t126 false a0_0 a0_1 a0_2))
theorem spec_TokenOrder.mono_l : ∀ k, (∀ y0 y1 y2 y3 y4, LeO (spec_TokenOrder.j0 k y0 y1 y2 y3 y4) (spec_TokenOrder.j0 (k + 1) y0 y1 y2 y3 y4)) ∧ (∀ y0 y1 y2 y3 y4, LeO (spec_TokenOrder.j1 k y0 y1 y2 y3 y4) (spec_TokenOrder.j1 (k + 1) y0 y1 y2 y3 y4)) ∧ (∀ y0 y1 y2 y3, LeO (spec_TokenOrder.j2 k y0 y1 y2 y3) (spec_TokenOrder.j2 (k + 1) y0 y1 y2 y3))
  | 0 => ⟨fun _ _ _ _ _ r h => by simp [spec_TokenOrder.j0] at h, fun _ _ _ _ _ r h => by simp [spec_TokenOrder.j1] at h, fun _ _ _ _ r h => by simp [spec_TokenOrder.j2] at h⟩
  | k + 1 => by
    obtain ⟨ih0, ih1, ih2⟩ := spec_TokenOrder.mono_l k
    refine ⟨?_, ?_, ?_⟩
    · intro y0 y1 y2 y3 y4
      unfold spec_TokenOrder.j0
      repeat' first
      | (with_reducible exact ih0 _ _ _ _ _)
      | (with_reducible exact ih1 _ _ _ _ _)
      | (with_reducible exact ih2 _ _ _ _)
      | (with_reducible exact spec_allDigits.mono _ _)
      | (with_reducible exact LeO.refl _)
      | (with_reducible exact LeO.none _)
      | (with_reducible refine LeO.ite ?_ ?_)
      | (with_reducible refine LeO.bind ?_ (fun _ => ?_))
      | exact ih0 _ _ _ _ _
      | exact ih1 _ _ _ _ _
      | exact ih2 _ _ _ _
      | exact spec_allDigits.mono _ _
      | exact LeO.none _
      | refine LeO.ite ?_ ?_
      | refine LeO.bind ?_ (fun _ => ?_)
    · intro y0 y1 y2 y3 y4
      unfold spec_TokenOrder.j1
      repeat' first
      | (with_reducible exact ih0 _ _ _ _ _)
      | (with_reducible exact ih1 _ _ _ _ _)
      | (with_reducible exact ih2 _ _ _ _)
      | (with_reducible exact spec_allDigits.mono _ _)
      | (with_reducible exact LeO.refl _)
      | (with_reducible exact LeO.none _)
      | (with_reducible refine LeO.ite ?_ ?_)
      | (with_reducible refine LeO.bind ?_ (fun _ => ?_))
      | exact ih0 _ _ _ _ _
      | exact ih1 _ _ _ _ _
      | exact ih2 _ _ _ _
      | exact spec_allDigits.mono _ _
      | exact LeO.none _
      | refine LeO.ite ?_ ?_
      | refine LeO.bind ?_ (fun _ => ?_)
    · intro y0 y1 y2 y3
      unfold spec_TokenOrder.j2
      repeat' first
      | (with_reducible exact ih0 _ _ _ _ _)
      | (with_reducible exact ih1 _ _ _ _ _)
      | (with_reducible exact ih2 _ _ _ _)
      | (with_reducible exact spec_allDigits.mono _ _)
      | (with_reducible exact LeO.refl _)
      | (with_reducible exact LeO.none _)
      | (with_reducible refine LeO.ite ?_ ?_)
      | (with_reducible refine LeO.bind ?_ (fun _ => ?_))
      | exact ih0 _ _ _ _ _
      | exact ih1 _ _ _ _ _
      | exact ih2 _ _ _ _
      | exact spec_allDigits.mono _ _
      | exact LeO.none _
      | refine LeO.ite ?_ ?_
      | refine LeO.bind ?_ (fun _ => ?_)
theorem spec_TokenOrder.mono : ∀ a0 a1 a2 k, LeO (spec_TokenOrder.f k a0 a1 a2) (spec_TokenOrder.f (k + 1) a0 a1 a2) := by
  intro a0 a1 a2 k
  obtain ⟨ih0, ih1, ih2⟩ := spec_TokenOrder.mono_l k
  unfold spec_TokenOrder.f
  repeat' first
      | (with_reducible exact ih0 _ _ _ _ _)
      | (with_reducible exact ih1 _ _ _ _ _)
      | (with_reducible exact ih2 _ _ _ _)
      | (with_reducible exact spec_allDigits.mono _ _)
      | (with_reducible exact LeO.refl _)
      | (with_reducible exact LeO.none _)
      | (with_reducible refine LeO.ite ?_ ?_)
      | (with_reducible refine LeO.bind ?_ (fun _ => ?_))
      | exact ih0 _ _ _ _ _
      | exact ih1 _ _ _ _ _
      | exact ih2 _ _ _ _
      | exact spec_allDigits.mono _ _
      | exact LeO.none _
      | refine LeO.ite ?_ ?_
      | refine LeO.bind ?_ (fun _ => ?_)
set_option maxHeartbeats 8000000 in
set_option maxRecDepth 100000 in
theorem spec_TokenOrder.calls (k : Nat) (a0_0 : ByteArray) (a0_1 : ByteArray) (a0_2 : Bool) (r1 : Int) (r2 : Bool) (w : World) (h : spec_TokenOrder.f k a0_0 a0_1 a0_2 = some (r1, r2)) :
    Calls Tryd.prog 26 #[.agg #[.string a0_0, .string a0_1, .bool a0_2]] w fun e w' => e = .returned (.tuple #[.int .i64 r1, .bool r2]) ∧ Below w.heap.size w w' := by
  have hu31 := Tryd.underlying31
  have HB := Aside0.mk (Below.refl w.heap.size w)
  have H : ((spec_allDigits.f k a0_1).bind fun t126 => (if a0_0.toList = ([46] : List UInt8) then (spec_TokenOrder.j0 k t126 t126 a0_0 a0_1 a0_2) else (spec_TokenOrder.j0 k t126 false a0_0 a0_1 a0_2))) = some (r1, r2) := h
  clear h
  replace H := Option.bind_eq_some_iff.mp H
  obtain ⟨t126, A20, H⟩ := H
  replace H : (if a0_0.toList = ([46] : List UInt8) then (spec_TokenOrder.j0 k t126 t126 a0_0 a0_1 a0_2) else (spec_TokenOrder.j0 k t126 false a0_0 a0_1 a0_2)) = some (r1, r2) := H
  have A2 := Aside0.mk A20
  clear A20
  have HC3 := Aside0.mk H
  clear H
  go_enter Tryd.func26, Tryd.ntmps26
  go_upto_region 2 with (first | ((with_reducible refine gate_dst (N := 1) rfl ?_); refine box_event ?hg (N := 1) ?hd (cs := #[.string a0_0, .string a0_1, .bool a0_2]) (t := 31) ?hr ?_; (case hd => rfl); (case hg => rfl); (case hr => first | (go_simp; done) | (go_simp; rfl)); intro gb125 hg w4 hbox hb; have n0_ := Aside0.mk (below_step (by repeat (first | (with_reducible first | exact HB.out | apply below_alloc | apply pw_below_drewN | apply below_drew1) | exact HB.out)) hb); have n1_ := Aside0.mk (hbox); have n2_ := Aside0.mk ((by rw [hg]; exact (below_size (by repeat (first | (with_reducible first | exact HB.out | apply below_alloc | apply pw_below_drewN | apply below_drew1) | exact HB.out))) : w.heap.size ≤ gb125)); have n3_ := Aside0.mk ((by rw [hg]; exact (below_size (by repeat (first | (with_reducible first | exact HB.out | apply below_alloc | apply pw_below_drewN | apply below_drew1) | exact HB.out))) : w.heap.size ≤ gb125)); clear HB; have HB := n0_; have BK125 := n1_; have GW125 := n2_; have GE125 := n3_; clear n0_ n1_ n2_ n3_; clear hb hbox hg; have hcz5_0 : w4.cell? ⟨gb125, 0, none⟩ = some (.string a0_0) := (blk_cell BK125.out 0).trans rfl; have hcz5_1 : w4.cell? ⟨gb125, 1, none⟩ = some (.string a0_1) := (blk_cell BK125.out 1).trans rfl; have hcz5_2 : w4.cell? ⟨gb125, 2, none⟩ = some (.bool a0_2) := (blk_cell BK125.out 2).trans rfl; have hfz5_0 := blk_frozen BK125.out 0; have hfz5_1 := blk_frozen BK125.out 1; have hfz5_2 := blk_frozen BK125.out 2) | ((with_reducible refine gate_callee (f := 25) rfl ?_); refine goesL_ (some 7) rfl rfl Tryd.func25 (by kernel_rfl) rfl #[.string a0_1] rfl (by (try simp only [List.map_toArray, List.map_cons, List.map_nil]); first | done | rfl | (simp only [List.length_drop, List.length_take]; rfl)) ?_; (with_reducible refine (spec_allDigits.calls k a0_1 t126 _ A2.out).mono ?_); rintro e w' ⟨rfl, ⟨nd, rfl⟩⟩; refine ⟨_, rfl, ?_⟩))
  (try simp only [Act.put, List.setIfInBounds_toArray, List.set_cons_zero, List.set_cons_succ])
  go_cut [8] (fun v8 wc => ∃ (kq : Nat) (x8_2 : Bool), v8 = .bool x8_2 ∧ Aside0 (spec_TokenOrder.j0 kq t126 x8_2 a0_0 a0_1 a0_2 = some (r1, r2)) ∧ Aside0 (kq ≤ k) ∧ Aside0 (wc.heap[gb125]? = some (.cells #[.string a0_0, .string a0_1, .bool a0_2] 31 (0, 0))) ∧ Aside0 (Below w.heap.size w wc))
  case first =>
    have H := HC3.out
    clear HC3
    by_cases c6 : a0_0.toList = ([46] : List UInt8)
    · rw [if_pos c6] at H
      have c6b0 : (a0_0.toList == ([46] : List UInt8)) = true := beq_iff_eq.mpr c6
      have c6b1 : (a0_0.toList != ([46] : List UInt8)) = false := bne_eq_false_iff_eq.mpr c6
      clear c6
      (first | rw [c6b0] | (simp only [i64_w, i32_w]; rw [c6b0]) | skip)
      have H' := Aside0.mk H
      clear H
      have hcz7_0 : w4.cell? ⟨gb125, 0, none⟩ = some (.string a0_0) := (blk_cell BK125.out 0).trans rfl
      have hcz7_1 : w4.cell? ⟨gb125, 1, none⟩ = some (.string a0_1) := (blk_cell BK125.out 1).trans rfl
      have hcz7_2 : w4.cell? ⟨gb125, 2, none⟩ = some (.bool a0_2) := (blk_cell BK125.out 2).trans rfl
      have hfz7_0 := blk_frozen BK125.out 0
      have hfz7_1 := blk_frozen BK125.out 1
      have hfz7_2 := blk_frozen BK125.out 2
      go_wp2
      go_meet
      case rel => exact ⟨_, (t126), (by first | rfl | (simp; done) | (simp [*]; done) | (simp [bne_nil_]; done)), H', ⟨by first | omega | exact Nat.le_refl _⟩, ⟨by (with_reducible repeat (first | refine blk_drewN ?_ _ | refine blk_drew ?_ | refine blk_alloc ?_ _)); exact BK125.out⟩, ⟨by repeat (first | (with_reducible first | exact HB.out | apply below_alloc | apply pw_below_drewN | apply below_drew1 | refine below_set ?_ GE125.out) | exact HB.out)⟩⟩
    · rw [if_neg c6] at H
      have c6b0 : (a0_0.toList == ([46] : List UInt8)) = false := beq_eq_false_iff_ne.mpr c6
      have c6b1 : (a0_0.toList != ([46] : List UInt8)) = true := bne_iff_ne.mpr c6
      (first | rw [c6b0] | (simp only [i64_w, i32_w]; rw [c6b0]) | skip)
      have H' := Aside0.mk H
      clear H
      have hcz8_0 : w4.cell? ⟨gb125, 0, none⟩ = some (.string a0_0) := (blk_cell BK125.out 0).trans rfl
      have hcz8_1 : w4.cell? ⟨gb125, 1, none⟩ = some (.string a0_1) := (blk_cell BK125.out 1).trans rfl
      have hcz8_2 : w4.cell? ⟨gb125, 2, none⟩ = some (.bool a0_2) := (blk_cell BK125.out 2).trans rfl
      have hfz8_0 := blk_frozen BK125.out 0
      have hfz8_1 := blk_frozen BK125.out 1
      have hfz8_2 := blk_frozen BK125.out 2
      go_wp2
      go_meet
      case rel => exact ⟨_, (false), (by first | rfl | (simp; done) | (simp [*]; done) | (simp [bne_nil_]; done)), H', ⟨by first | omega | exact Nat.le_refl _⟩, ⟨by (with_reducible repeat (first | refine blk_drewN ?_ _ | refine blk_drew ?_ | refine blk_alloc ?_ _)); exact BK125.out⟩, ⟨by repeat (first | (with_reducible first | exact HB.out | apply below_alloc | apply pw_below_drewN | apply below_drew1 | refine below_set ?_ GE125.out) | exact HB.out)⟩⟩
  case rest =>
    clear HC3
    try clear c2
    try clear p2
    try clear c6
    try clear c6b0
    try clear c6b1
    try clear hcz5_0
    try clear hcz5_1
    try clear hcz5_2
    try clear hcz7_0
    try clear hcz7_1
    try clear hcz7_2
    try clear hcz8_0
    try clear hcz8_1
    try clear hcz8_2
    try clear hfz5_0
    try clear hfz5_1
    try clear hfz5_2
    try clear hfz7_0
    try clear hfz7_1
    try clear hfz7_2
    try clear hfz8_0
    try clear hfz8_1
    try clear hfz8_2
    obtain ⟨kq, x8_2, rfl, HA, HJ2, BK125, HB⟩ := hcut
    cases kq with
    | zero => exact absurd HA.out (by simp [spec_TokenOrder.j0])
    | succ kj2 =>
      have H := HA.out
      clear HA
      simp only [spec_TokenOrder.j0] at H
      by_cases c9 : x8_2 = true
      · subst c9
        have H1 : (some (3, true)) = some (r1, r2) := by rw [if_pos rfl] at H; exact H
        clear H
        have H := H1
        clear H1
        simp only [Option.some.injEq, Prod.mk.injEq] at H
        obtain ⟨rfl, rfl⟩ := H
        go_wp2
        go_ret2
        exact ⟨by first | rfl | (simp [errW_none, errW_some] <;> rfl) | (simp [*, errW_none, errW_some] <;> rfl) | (simp [bne_nil_]; done), by repeat (first | (with_reducible first | exact HB.out | apply below_alloc | apply pw_below_drewN | apply below_drew1 | refine below_set ?_ GE125.out) | exact HB.out)⟩
      · replace c9 := Bool.eq_false_iff.mpr c9
        subst c9
        have H1 : (if a0_0.toList = ([46] : List UInt8) then (spec_TokenOrder.j1 kj2 t126 (!t126) a0_0 a0_1 a0_2) else (spec_TokenOrder.j1 kj2 t126 false a0_0 a0_1 a0_2)) = some (r1, r2) := by rw [if_neg (show ¬ (false = true) by decide)] at H; exact H
        clear H
        have H := H1
        clear H1
        have HC10 := Aside0.mk H
        clear H
        go_upto_region 4 with (fail)
        go_cut [15] (fun v15 wc => ∃ (kq : Nat) (x15_9 : Bool), v15 = .bool x15_9 ∧ Aside0 (spec_TokenOrder.j1 kq t126 x15_9 a0_0 a0_1 a0_2 = some (r1, r2)) ∧ Aside0 (kq ≤ kj2) ∧ Aside0 (wc.heap[gb125]? = some (.cells #[.string a0_0, .string a0_1, .bool a0_2] 31 (0, 0))) ∧ Aside0 (Below w.heap.size w wc))
        case first =>
          have H := HC10.out
          clear HC10
          by_cases c11 : a0_0.toList = ([46] : List UInt8)
          · rw [if_pos c11] at H
            have c11b0 : (a0_0.toList == ([46] : List UInt8)) = true := beq_iff_eq.mpr c11
            have c11b1 : (a0_0.toList != ([46] : List UInt8)) = false := bne_eq_false_iff_eq.mpr c11
            clear c11
            (first | rw [c11b0] | (simp only [i64_w, i32_w]; rw [c11b0]) | skip)
            have H' := Aside0.mk H
            clear H
            have hcz12_0 : wc.cell? ⟨gb125, 0, none⟩ = some (.string a0_0) := (blk_cell BK125.out 0).trans rfl
            have hcz12_1 : wc.cell? ⟨gb125, 1, none⟩ = some (.string a0_1) := (blk_cell BK125.out 1).trans rfl
            have hcz12_2 : wc.cell? ⟨gb125, 2, none⟩ = some (.bool a0_2) := (blk_cell BK125.out 2).trans rfl
            have hfz12_0 := blk_frozen BK125.out 0
            have hfz12_1 := blk_frozen BK125.out 1
            have hfz12_2 := blk_frozen BK125.out 2
            go_wp2
            go_meet
            case rel => exact ⟨_, (!t126), (by first | rfl | (simp; done) | (simp [*]; done) | (simp [bne_nil_]; done)), H', ⟨by have := HJ2.out; first | omega | exact Nat.le_refl _⟩, ⟨by (with_reducible repeat (first | refine blk_drewN ?_ _ | refine blk_drew ?_ | refine blk_alloc ?_ _)); exact BK125.out⟩, ⟨by repeat (first | (with_reducible first | exact HB.out | apply below_alloc | apply pw_below_drewN | apply below_drew1 | refine below_set ?_ GE125.out) | exact HB.out)⟩⟩
          · rw [if_neg c11] at H
            have c11b0 : (a0_0.toList == ([46] : List UInt8)) = false := beq_eq_false_iff_ne.mpr c11
            have c11b1 : (a0_0.toList != ([46] : List UInt8)) = true := bne_iff_ne.mpr c11
            (first | rw [c11b0] | (simp only [i64_w, i32_w]; rw [c11b0]) | skip)
            have H' := Aside0.mk H
            clear H
            have hcz13_0 : wc.cell? ⟨gb125, 0, none⟩ = some (.string a0_0) := (blk_cell BK125.out 0).trans rfl
            have hcz13_1 : wc.cell? ⟨gb125, 1, none⟩ = some (.string a0_1) := (blk_cell BK125.out 1).trans rfl
            have hcz13_2 : wc.cell? ⟨gb125, 2, none⟩ = some (.bool a0_2) := (blk_cell BK125.out 2).trans rfl
            have hfz13_0 := blk_frozen BK125.out 0
            have hfz13_1 := blk_frozen BK125.out 1
            have hfz13_2 := blk_frozen BK125.out 2
            go_wp2
            go_meet
            case rel => exact ⟨_, (false), (by first | rfl | (simp; done) | (simp [*]; done) | (simp [bne_nil_]; done)), H', ⟨by have := HJ2.out; first | omega | exact Nat.le_refl _⟩, ⟨by (with_reducible repeat (first | refine blk_drewN ?_ _ | refine blk_drew ?_ | refine blk_alloc ?_ _)); exact BK125.out⟩, ⟨by repeat (first | (with_reducible first | exact HB.out | apply below_alloc | apply pw_below_drewN | apply below_drew1 | refine below_set ?_ GE125.out) | exact HB.out)⟩⟩
        case rest =>
          clear HC10
          try clear c1
          try clear c2
          try clear p2
          try clear c6
          try clear c6b0
          try clear c6b1
          try clear c9
          try clear c11
          try clear c11b0
          try clear c11b1
          try clear hcz12_0
          try clear hcz12_1
          try clear hcz12_2
          try clear hcz13_0
          try clear hcz13_1
          try clear hcz13_2
          try clear hcz5_0
          try clear hcz5_1
          try clear hcz5_2
          try clear hcz7_0
          try clear hcz7_1
          try clear hcz7_2
          try clear hcz8_0
          try clear hcz8_1
          try clear hcz8_2
          try clear hfz12_0
          try clear hfz12_1
          try clear hfz12_2
          try clear hfz13_0
          try clear hfz13_1
          try clear hfz13_2
          try clear hfz5_0
          try clear hfz5_1
          try clear hfz5_2
          try clear hfz7_0
          try clear hfz7_1
          try clear hfz7_2
          try clear hfz8_0
          try clear hfz8_1
          try clear hfz8_2
          try clear p2
          obtain ⟨kq, x15_9, rfl, HA, HJ9, BK125, HB⟩ := hcut
          cases kq with
          | zero => exact absurd HA.out (by simp [spec_TokenOrder.j1])
          | succ kj9 =>
            have H := HA.out
            clear HA
            simp only [spec_TokenOrder.j1] at H
            by_cases c14 : x15_9 = true
            · subst c14
              have H1 : (some (0, true)) = some (r1, r2) := by rw [if_pos rfl] at H; exact H
              clear H
              have H := H1
              clear H1
              simp only [Option.some.injEq, Prod.mk.injEq] at H
              obtain ⟨rfl, rfl⟩ := H
              go_wp2
              go_ret2
              exact ⟨by first | rfl | (simp [errW_none, errW_some] <;> rfl) | (simp [*, errW_none, errW_some] <;> rfl) | (simp [bne_nil_]; done), by repeat (first | (with_reducible first | exact HB.out | apply below_alloc | apply pw_below_drewN | apply below_drew1 | refine below_set ?_ GE125.out) | exact HB.out)⟩
            · replace c14 := Bool.eq_false_iff.mpr c14
              subst c14
              have H1 : (if a0_0.toList = ([45] : List UInt8) then (spec_TokenOrder.j2 kj9 t126 a0_0 a0_1 a0_2) else (spec_TokenOrder.j2 kj9 false a0_0 a0_1 a0_2)) = some (r1, r2) := by rw [if_neg (show ¬ (false = true) by decide)] at H; exact H
              clear H
              have H := H1
              clear H1
              have HC15 := Aside0.mk H
              clear H
              go_upto_region 6 with (fail)
              go_cut [23] (fun v23 wc => ∃ (kq : Nat) (x23_14 : Bool), v23 = .bool x23_14 ∧ Aside0 (spec_TokenOrder.j2 kq x23_14 a0_0 a0_1 a0_2 = some (r1, r2)) ∧ Aside0 (kq ≤ kj9) ∧ Aside0 (wc.heap[gb125]? = some (.cells #[.string a0_0, .string a0_1, .bool a0_2] 31 (0, 0))) ∧ Aside0 (Below w.heap.size w wc))
              case first =>
                have H := HC15.out
                clear HC15
                by_cases c16 : a0_0.toList = ([45] : List UInt8)
                · rw [if_pos c16] at H
                  have c16b0 : (a0_0.toList == ([45] : List UInt8)) = true := beq_iff_eq.mpr c16
                  have c16b1 : (a0_0.toList != ([45] : List UInt8)) = false := bne_eq_false_iff_eq.mpr c16
                  clear c16
                  (first | rw [c16b0] | (simp only [i64_w, i32_w]; rw [c16b0]) | skip)
                  have H' := Aside0.mk H
                  clear H
                  have hcz17_0 : wc.cell? ⟨gb125, 0, none⟩ = some (.string a0_0) := (blk_cell BK125.out 0).trans rfl
                  have hcz17_1 : wc.cell? ⟨gb125, 1, none⟩ = some (.string a0_1) := (blk_cell BK125.out 1).trans rfl
                  have hcz17_2 : wc.cell? ⟨gb125, 2, none⟩ = some (.bool a0_2) := (blk_cell BK125.out 2).trans rfl
                  have hfz17_0 := blk_frozen BK125.out 0
                  have hfz17_1 := blk_frozen BK125.out 1
                  have hfz17_2 := blk_frozen BK125.out 2
                  go_wp2
                  go_meet
                  case rel => exact ⟨_, (t126), (by first | rfl | (simp; done) | (simp [*]; done) | (simp [bne_nil_]; done)), H', ⟨by have := HJ2.out; have := HJ9.out; first | omega | exact Nat.le_refl _⟩, ⟨by (with_reducible repeat (first | refine blk_drewN ?_ _ | refine blk_drew ?_ | refine blk_alloc ?_ _)); exact BK125.out⟩, ⟨by repeat (first | (with_reducible first | exact HB.out | apply below_alloc | apply pw_below_drewN | apply below_drew1 | refine below_set ?_ GE125.out) | exact HB.out)⟩⟩
                · rw [if_neg c16] at H
                  have c16b0 : (a0_0.toList == ([45] : List UInt8)) = false := beq_eq_false_iff_ne.mpr c16
                  have c16b1 : (a0_0.toList != ([45] : List UInt8)) = true := bne_iff_ne.mpr c16
                  (first | rw [c16b0] | (simp only [i64_w, i32_w]; rw [c16b0]) | skip)
                  have H' := Aside0.mk H
                  clear H
                  have hcz18_0 : wc.cell? ⟨gb125, 0, none⟩ = some (.string a0_0) := (blk_cell BK125.out 0).trans rfl
                  have hcz18_1 : wc.cell? ⟨gb125, 1, none⟩ = some (.string a0_1) := (blk_cell BK125.out 1).trans rfl
                  have hcz18_2 : wc.cell? ⟨gb125, 2, none⟩ = some (.bool a0_2) := (blk_cell BK125.out 2).trans rfl
                  have hfz18_0 := blk_frozen BK125.out 0
                  have hfz18_1 := blk_frozen BK125.out 1
                  have hfz18_2 := blk_frozen BK125.out 2
                  go_wp2
                  go_meet
                  case rel => exact ⟨_, (false), (by first | rfl | (simp; done) | (simp [*]; done) | (simp [bne_nil_]; done)), H', ⟨by have := HJ2.out; have := HJ9.out; first | omega | exact Nat.le_refl _⟩, ⟨by (with_reducible repeat (first | refine blk_drewN ?_ _ | refine blk_drew ?_ | refine blk_alloc ?_ _)); exact BK125.out⟩, ⟨by repeat (first | (with_reducible first | exact HB.out | apply below_alloc | apply pw_below_drewN | apply below_drew1 | refine below_set ?_ GE125.out) | exact HB.out)⟩⟩
              case rest =>
                clear HC15
                try clear c1
                try clear c2
                try clear p2
                try clear c6
                try clear c6b0
                try clear c6b1
                try clear c9
                try clear c11
                try clear c11b0
                try clear c11b1
                try clear c14
                try clear c16
                try clear c16b0
                try clear c16b1
                try clear hcz12_0
                try clear hcz12_1
                try clear hcz12_2
                try clear hcz13_0
                try clear hcz13_1
                try clear hcz13_2
                try clear hcz17_0
                try clear hcz17_1
                try clear hcz17_2
                try clear hcz18_0
                try clear hcz18_1
                try clear hcz18_2
                try clear hcz5_0
                try clear hcz5_1
                try clear hcz5_2
                try clear hcz7_0
                try clear hcz7_1
                try clear hcz7_2
                try clear hcz8_0
                try clear hcz8_1
                try clear hcz8_2
                try clear hfz12_0
                try clear hfz12_1
                try clear hfz12_2
                try clear hfz13_0
                try clear hfz13_1
                try clear hfz13_2
                try clear hfz17_0
                try clear hfz17_1
                try clear hfz17_2
                try clear hfz18_0
                try clear hfz18_1
                try clear hfz18_2
                try clear hfz5_0
                try clear hfz5_1
                try clear hfz5_2
                try clear hfz7_0
                try clear hfz7_1
                try clear hfz7_2
                try clear hfz8_0
                try clear hfz8_1
                try clear hfz8_2
                try clear p2
                obtain ⟨kq, x23_14, rfl, HA, HJ14, BK125, HB⟩ := hcut
                cases kq with
                | zero => exact absurd HA.out (by simp [spec_TokenOrder.j2])
                | succ kj14 =>
                  have H := HA.out
                  clear HA
                  simp only [spec_TokenOrder.j2] at H
                  by_cases c19 : x23_14 = true
                  · subst c19
                    have H1 : (some (2, true)) = some (r1, r2) := by rw [if_pos rfl] at H; exact H
                    clear H
                    have H := H1
                    clear H1
                    simp only [Option.some.injEq, Prod.mk.injEq] at H
                    obtain ⟨rfl, rfl⟩ := H
                    go_wp2
                    go_ret2
                    exact ⟨by first | rfl | (simp [errW_none, errW_some] <;> rfl) | (simp [*, errW_none, errW_some] <;> rfl) | (simp [bne_nil_]; done), by repeat (first | (with_reducible first | exact HB.out | apply below_alloc | apply pw_below_drewN | apply below_drew1 | refine below_set ?_ GE125.out) | exact HB.out)⟩
                  · replace c19 := Bool.eq_false_iff.mpr c19
                    subst c19
                    have H1 : (if a0_0.toList = ([45] : List UInt8) then (some (1, true)) else (some (0, false))) = some (r1, r2) := by rw [if_neg (show ¬ (false = true) by decide)] at H; exact H
                    clear H
                    have H := H1
                    clear H1
                    by_cases c20 : a0_0.toList = ([45] : List UInt8)
                    · rw [if_pos c20] at H
                      have c20b0 : (a0_0.toList == ([45] : List UInt8)) = true := beq_iff_eq.mpr c20
                      have c20b1 : (a0_0.toList != ([45] : List UInt8)) = false := bne_eq_false_iff_eq.mpr c20
                      clear c20
                      simp only [Option.some.injEq, Prod.mk.injEq] at H
                      obtain ⟨rfl, rfl⟩ := H
                      have hcz21_0 : wc.cell? ⟨gb125, 0, none⟩ = some (.string a0_0) := (blk_cell BK125.out 0).trans rfl
                      have hcz21_1 : wc.cell? ⟨gb125, 1, none⟩ = some (.string a0_1) := (blk_cell BK125.out 1).trans rfl
                      have hcz21_2 : wc.cell? ⟨gb125, 2, none⟩ = some (.bool a0_2) := (blk_cell BK125.out 2).trans rfl
                      have hfz21_0 := blk_frozen BK125.out 0
                      have hfz21_1 := blk_frozen BK125.out 1
                      have hfz21_2 := blk_frozen BK125.out 2
                      go_wp2
                      go_ret2
                      exact ⟨by first | rfl | (simp [errW_none, errW_some] <;> rfl) | (simp [*, errW_none, errW_some] <;> rfl) | (simp [bne_nil_]; done), by repeat (first | (with_reducible first | exact HB.out | apply below_alloc | apply pw_below_drewN | apply below_drew1 | refine below_set ?_ GE125.out) | exact HB.out)⟩
                    · rw [if_neg c20] at H
                      have c20b0 : (a0_0.toList == ([45] : List UInt8)) = false := beq_eq_false_iff_ne.mpr c20
                      have c20b1 : (a0_0.toList != ([45] : List UInt8)) = true := bne_iff_ne.mpr c20
                      simp only [Option.some.injEq, Prod.mk.injEq] at H
                      obtain ⟨rfl, rfl⟩ := H
                      have hcz22_0 : wc.cell? ⟨gb125, 0, none⟩ = some (.string a0_0) := (blk_cell BK125.out 0).trans rfl
                      have hcz22_1 : wc.cell? ⟨gb125, 1, none⟩ = some (.string a0_1) := (blk_cell BK125.out 1).trans rfl
                      have hcz22_2 : wc.cell? ⟨gb125, 2, none⟩ = some (.bool a0_2) := (blk_cell BK125.out 2).trans rfl
                      have hfz22_0 := blk_frozen BK125.out 0
                      have hfz22_1 := blk_frozen BK125.out 1
                      have hfz22_2 := blk_frozen BK125.out 2
                      go_wp2
                      go_ret2
                      exact ⟨by first | rfl | (simp [errW_none, errW_some] <;> rfl) | (simp [*, errW_none, errW_some] <;> rfl) | (simp [bne_nil_]; done), by repeat (first | (with_reducible first | exact HB.out | apply below_alloc | apply pw_below_drewN | apply below_drew1 | refine below_set ?_ GE125.out) | exact HB.out)⟩

/-! ### spec_orderInts: function 27 -/
def spec_orderInts.f (a0 : Int) (a1 : Int) : Option (Int) := if a0 < a1 then (some (-1)) else (if a0 > a1 then (some 1) else (some 0))
set_option maxHeartbeats 8000000 in
set_option maxRecDepth 100000 in
theorem spec_orderInts.calls (a0 : Int) (a1 : Int) (r : Int) (w : World) (h : spec_orderInts.f a0 a1 = some r) :
    Calls Tryd.prog 27 #[.int .i64 a0, .int .i64 a1] w fun e w' => e = .returned (.int .i64 r) ∧ Drawn0 w w' := by
  have H : (if a0 < a1 then (some (-1)) else (if a0 > a1 then (some 1) else (some 0))) = some r := h
  clear h
  by_cases c3 : a0 < a1
  · rw [if_pos c3] at H
    have c3b0 : decide (a0 < a1) = true := decide_eq_true c3
    clear c3
    obtain rfl := Option.some.inj H
    go_enter Tryd.func27, Tryd.ntmps27
    go_wp2
    go_ret
    exact ⟨by first | rfl | (simp; done) | (simp [*]; done) | (simp [bne_nil_]; done), by repeat (first | exact Drawn0.refl _ | apply Drawn0.step)⟩
  · rw [if_neg c3] at H
    have c3b0 : decide (a0 < a1) = false := decide_eq_false c3
    clear c3
    by_cases c4 : a0 > a1
    · rw [if_pos c4] at H
      have c4b0 : decide (a1 < a0) = true := decide_eq_true c4
      clear c4
      obtain rfl := Option.some.inj H
      go_enter Tryd.func27, Tryd.ntmps27
      go_wp2
      go_ret
      exact ⟨by first | rfl | (simp; done) | (simp [*]; done) | (simp [bne_nil_]; done), by repeat (first | exact Drawn0.refl _ | apply Drawn0.step)⟩
    · rw [if_neg c4] at H
      have c4b0 : decide (a1 < a0) = false := decide_eq_false c4
      clear c4
      obtain rfl := Option.some.inj H
      go_enter Tryd.func27, Tryd.ntmps27
      go_wp2
      go_ret
      exact ⟨by first | rfl | (simp; done) | (simp [*]; done) | (simp [bne_nil_]; done), by repeat (first | exact Drawn0.refl _ | apply Drawn0.step)⟩

-- GIVEN: function 38 (spec_order)

/-! ### spec_orderNumbers: function 28 -/
mutual
def spec_orderNumbers.j1 : Nat → ByteArray → ByteArray → Option (Int)
  | 0, _, _ => none
  | k + 1, x0, x1 => spec_orderNumbers.l1 k x0 x1
def spec_orderNumbers.j3 : Nat → ByteArray → ByteArray → Option (Int)
  | 0, _, _ => none
  | k + 1, x0, x1 => if (x0.size : Int) = (x1.size : Int) then ((Giv.spec_order.f x0 x1).bind fun t127 => (some t127)) else ((spec_orderInts.f (x0.size : Int) (x1.size : Int)).bind fun t128 => (some t128))
def spec_orderNumbers.l1 : Nat → ByteArray → ByteArray → Option (Int)
  | 0, _, _ => none
  | k + 1, x0, x1 => if (x1.size : Int) > 0 then (if 0 < (x1.size : Int) then (if (bt x1 0) = 48 then (if 1 ≤ (x1.size : Int) then (spec_orderNumbers.l1 k x0 (x1.extract 1 x1.size)) else (none)) else (spec_orderNumbers.j3 k x0 x1)) else (none)) else (spec_orderNumbers.j3 k x0 x1)
def spec_orderNumbers.l0 : Nat → ByteArray → ByteArray → Option (Int)
  | 0, _, _ => none
  | k + 1, x0, x1 => if (x0.size : Int) > 0 then (if 0 < (x0.size : Int) then (if (bt x0 0) = 48 then (if 1 ≤ (x0.size : Int) then (spec_orderNumbers.l0 k (x0.extract 1 x0.size) x1) else (none)) else (spec_orderNumbers.j1 k x0 x1)) else (none)) else (spec_orderNumbers.j1 k x0 x1)
end
def spec_orderNumbers.f (k : Nat) (a0 : ByteArray) (a1 : ByteArray) : Option (Int) := spec_orderNumbers.l0 k a0 a1
theorem spec_orderNumbers.mono_l : ∀ k, (∀ y0 y1, LeO (spec_orderNumbers.j1 k y0 y1) (spec_orderNumbers.j1 (k + 1) y0 y1)) ∧ (∀ y0 y1, LeO (spec_orderNumbers.j3 k y0 y1) (spec_orderNumbers.j3 (k + 1) y0 y1)) ∧ (∀ y0 y1, LeO (spec_orderNumbers.l1 k y0 y1) (spec_orderNumbers.l1 (k + 1) y0 y1)) ∧ (∀ y0 y1, LeO (spec_orderNumbers.l0 k y0 y1) (spec_orderNumbers.l0 (k + 1) y0 y1))
  | 0 => ⟨fun _ _ r h => by simp [spec_orderNumbers.j1] at h, fun _ _ r h => by simp [spec_orderNumbers.j3] at h, fun _ _ r h => by simp [spec_orderNumbers.l1] at h, fun _ _ r h => by simp [spec_orderNumbers.l0] at h⟩
  | k + 1 => by
    obtain ⟨ih0, ih1, ih2, ih3⟩ := spec_orderNumbers.mono_l k
    refine ⟨?_, ?_, ?_, ?_⟩
    · intro y0 y1
      unfold spec_orderNumbers.j1
      repeat' first
      | (with_reducible exact ih0 _ _)
      | (with_reducible exact ih1 _ _)
      | (with_reducible exact ih2 _ _)
      | (with_reducible exact ih3 _ _)
      | (with_reducible exact LeO.refl _)
      | (with_reducible exact LeO.none _)
      | (with_reducible refine LeO.ite ?_ ?_)
      | (with_reducible refine LeO.bind ?_ (fun _ => ?_))
      | exact ih0 _ _
      | exact ih1 _ _
      | exact ih2 _ _
      | exact ih3 _ _
      | exact LeO.none _
      | refine LeO.ite ?_ ?_
      | refine LeO.bind ?_ (fun _ => ?_)
    · intro y0 y1
      unfold spec_orderNumbers.j3
      repeat' first
      | (with_reducible exact ih0 _ _)
      | (with_reducible exact ih1 _ _)
      | (with_reducible exact ih2 _ _)
      | (with_reducible exact ih3 _ _)
      | (with_reducible exact LeO.refl _)
      | (with_reducible exact LeO.none _)
      | (with_reducible refine LeO.ite ?_ ?_)
      | (with_reducible refine LeO.bind ?_ (fun _ => ?_))
      | exact ih0 _ _
      | exact ih1 _ _
      | exact ih2 _ _
      | exact ih3 _ _
      | exact LeO.none _
      | refine LeO.ite ?_ ?_
      | refine LeO.bind ?_ (fun _ => ?_)
    · intro y0 y1
      unfold spec_orderNumbers.l1
      repeat' first
      | (with_reducible exact ih0 _ _)
      | (with_reducible exact ih1 _ _)
      | (with_reducible exact ih2 _ _)
      | (with_reducible exact ih3 _ _)
      | (with_reducible exact LeO.refl _)
      | (with_reducible exact LeO.none _)
      | (with_reducible refine LeO.ite ?_ ?_)
      | (with_reducible refine LeO.bind ?_ (fun _ => ?_))
      | exact ih0 _ _
      | exact ih1 _ _
      | exact ih2 _ _
      | exact ih3 _ _
      | exact LeO.none _
      | refine LeO.ite ?_ ?_
      | refine LeO.bind ?_ (fun _ => ?_)
    · intro y0 y1
      unfold spec_orderNumbers.l0
      repeat' first
      | (with_reducible exact ih0 _ _)
      | (with_reducible exact ih1 _ _)
      | (with_reducible exact ih2 _ _)
      | (with_reducible exact ih3 _ _)
      | (with_reducible exact LeO.refl _)
      | (with_reducible exact LeO.none _)
      | (with_reducible refine LeO.ite ?_ ?_)
      | (with_reducible refine LeO.bind ?_ (fun _ => ?_))
      | exact ih0 _ _
      | exact ih1 _ _
      | exact ih2 _ _
      | exact ih3 _ _
      | exact LeO.none _
      | refine LeO.ite ?_ ?_
      | refine LeO.bind ?_ (fun _ => ?_)
theorem spec_orderNumbers.mono : ∀ a0 a1 k, LeO (spec_orderNumbers.f k a0 a1) (spec_orderNumbers.f (k + 1) a0 a1) := by
  intro a0 a1 k
  obtain ⟨ih0, ih1, ih2, ih3⟩ := spec_orderNumbers.mono_l k
  unfold spec_orderNumbers.f
  repeat' first
      | (with_reducible exact ih0 _ _)
      | (with_reducible exact ih1 _ _)
      | (with_reducible exact ih2 _ _)
      | (with_reducible exact ih3 _ _)
      | (with_reducible exact LeO.refl _)
      | (with_reducible exact LeO.none _)
      | (with_reducible refine LeO.ite ?_ ?_)
      | (with_reducible refine LeO.bind ?_ (fun _ => ?_))
      | exact ih0 _ _
      | exact ih1 _ _
      | exact ih2 _ _
      | exact ih3 _ _
      | exact LeO.none _
      | refine LeO.ite ?_ ?_
      | refine LeO.bind ?_ (fun _ => ?_)
set_option maxHeartbeats 8000000 in
set_option maxRecDepth 100000 in
theorem spec_orderNumbers.calls (k : Nat) (a0 : ByteArray) (a1 : ByteArray) (r : Int) (w : World) (h : spec_orderNumbers.f k a0 a1 = some r) :
    Calls Tryd.prog 28 #[.string a0, .string a1] w fun e w' => e = .returned (.int .i64 r) ∧ Drawn0 w w' := by
  have H : (spec_orderNumbers.l0 k a0 a1) = some r := h
  clear h
  have HC3 := Aside0.mk H
  clear H
  go_enter Tryd.func28, Tryd.ntmps28
  go_upto_block 0 with (fail)
  go_cut [0] (fun v0 wc => ∃ (kq : Nat) (x0_2 : ByteArray), v0 = .string x0_2 ∧ Aside0 (spec_orderNumbers.j1 kq x0_2 a1 = some r) ∧ Aside0 (kq ≤ k) ∧ Drawn0 w wc)
  case first =>
    have H := HC3.out
    clear HC3
    have H' := Aside0.mk H
    clear H
    go_wp2
    go_loopg [0] k (fun kq v0 w' => ∃ (x0_1 : ByteArray), v0 = .string x0_1 ∧ Aside0 (spec_orderNumbers.l0 kq x0_1 a1 = some r) ∧ Aside0 (kq ≤ k) ∧ Drawn0 w w')
    case atStart => exact ⟨(a0), (by first | rfl | (simp; done) | (simp [*]; done) | (simp [bne_nil_]; done)), H', ⟨Nat.le_refl _⟩, by repeat (first | exact Drawn0.refl _ | apply Drawn0.step)⟩
    case round =>
      clear H'
      try clear c2
      try clear p2
      obtain ⟨x0_1, rfl, HA, HK1, ⟨m1, rfl⟩⟩ := hrel
      cases gk with
      | zero => exact absurd HA.out (by simp [spec_orderNumbers.l0])
      | succ k1 =>
        have H := HA.out
        clear HA
        simp only [spec_orderNumbers.l0] at H
        by_cases c4 : (x0_1.size : Int) > 0
        · rw [if_pos c4] at H
          have c4b0 : decide (0 < (x0_1.size : Int)) = true := decide_eq_true c4
          have c4b1 : decide (0 < x0_1.size) = true := decide_eq_true (by omega)
          clear c4
          (first | rw [c4b0] | (simp only [i64_w, i32_w]; rw [c4b0]) | skip)
          by_cases c5 : 0 < (x0_1.size : Int)
          · rw [if_pos c5] at H
            have c5b0 : decide (0 < (x0_1.size : Int)) = true := decide_eq_true c5
            have c5b1 : decide (0 < x0_1.size) = true := decide_eq_true (by omega)
            clear c5
            by_cases c7 : (bt x0_1 0) = 48
            · rw [if_pos c7] at H
              have c7b0 : ((bt x0_1 0) == 48) = true := beq_iff_eq.mpr c7
              have c7b1 : ((bt x0_1 0) != 48) = false := bne_eq_false_iff_eq.mpr c7
              clear c7
              by_cases c8 : 1 ≤ (x0_1.size : Int)
              · rw [if_pos c8] at H
                have c8b0 := eq_true c8
                have c8b1 : decide (1 ≤ (x0_1.size : Int)) = true := decide_eq_true c8
                clear c8
                have H' := Aside0.mk H
                clear H
                have p6 : 0 ≤ (0 : Int) := (by omega)
                have q6 : 0 < x0_1.size := (by have : (0 : Int) < (x0_1.size : Int) := of_decide_eq_true (by first | (with_reducible assumption) | assumption); omega)
                have hx6 : ∀ h : 0 < x0_1.size, ((x0_1[0]'h).toNat : Int) = bt x0_1 0 := bt_at x0_1 0
                clear p6
                have qi6 : (0 < (x0_1.size : Int)) = True := eq_true (of_decide_eq_true (by first | (with_reducible assumption) | assumption))
                replace q6 := eq_true q6
                go_wp2
                go_roundg k1
                case measure => have := HK1.out; omega
                case rel => exact ⟨(x0_1.extract 1 x0_1.size), (by first | rfl | (simp; done) | (simp [*]; done) | (simp [bne_nil_]; done)), H', ⟨by have := HK1.out; omega⟩, by repeat (first | exact Drawn0.refl _ | apply Drawn0.step)⟩
              · rw [if_neg c8] at H
                exact absurd H (by simp)
            · rw [if_neg c7] at H
              have c7b0 : ((bt x0_1 0) == 48) = false := beq_eq_false_iff_ne.mpr c7
              have c7b1 : ((bt x0_1 0) != 48) = true := bne_iff_ne.mpr c7
              have H' := Aside0.mk H
              clear H
              have p6 : 0 ≤ (0 : Int) := (by omega)
              have q6 : 0 < x0_1.size := (by have : (0 : Int) < (x0_1.size : Int) := of_decide_eq_true (by first | (with_reducible assumption) | assumption); omega)
              have hx6 : ∀ h : 0 < x0_1.size, ((x0_1[0]'h).toNat : Int) = bt x0_1 0 := bt_at x0_1 0
              clear p6
              have qi6 : (0 < (x0_1.size : Int)) = True := eq_true (of_decide_eq_true (by first | (with_reducible assumption) | assumption))
              replace q6 := eq_true q6
              go_wp2
              go_meet
              case rel => exact ⟨_, (x0_1), (by first | rfl | (simp; done) | (simp [*]; done) | (simp [bne_nil_]; done)), H', ⟨by have := HK1.out; first | omega | exact Nat.le_refl _⟩, by repeat (first | exact Drawn0.refl _ | apply Drawn0.step)⟩
          · rw [if_neg c5] at H
            exact absurd H (by simp)
        · rw [if_neg c4] at H
          have c4b0 : decide (0 < (x0_1.size : Int)) = false := decide_eq_false c4
          have c4b1 : decide (0 < x0_1.size) = false := decide_eq_false (by omega)
          clear c4
          (first | rw [c4b0] | (simp only [i64_w, i32_w]; rw [c4b0]) | skip)
          have H' := Aside0.mk H
          clear H
          go_wp2
          go_meet
          case rel => exact ⟨_, (x0_1), (by first | rfl | (simp; done) | (simp [*]; done) | (simp [bne_nil_]; done)), H', ⟨by have := HK1.out; first | omega | exact Nat.le_refl _⟩, by repeat (first | exact Drawn0.refl _ | apply Drawn0.step)⟩
  case rest =>
    clear HC3
    try clear c2
    try clear p2
    try clear c4
    try clear c4b0
    try clear c4b1
    try clear c5
    try clear c5b0
    try clear c5b1
    try clear p6
    try clear q6
    try clear hx6
    try clear qi6
    try clear c7
    try clear c7b0
    try clear c7b1
    try clear c8
    try clear c8b0
    try clear c8b1
    try clear p2
    try clear p6
    try clear q6
    obtain ⟨kq, x0_2, rfl, HA, HJ2, ⟨mc2, rfl⟩⟩ := hcut
    cases kq with
    | zero => exact absurd HA.out (by simp [spec_orderNumbers.j1])
    | succ kj2 =>
      have H := HA.out
      clear HA
      simp only [spec_orderNumbers.j1] at H
      have HC9 := Aside0.mk H
      clear H
      go_upto_block 2 with (fail)
      go_cut [1] (fun v1 wc => ∃ (kq : Nat) (x1_8 : ByteArray), v1 = .string x1_8 ∧ Aside0 (spec_orderNumbers.j3 kq x0_2 x1_8 = some r) ∧ Aside0 (kq ≤ kj2) ∧ Drawn0 w wc)
      case first =>
        have H := HC9.out
        clear HC9
        have H' := Aside0.mk H
        clear H
        go_wp2
        go_loopg [1] kj2 (fun kq v1 w' => ∃ (x1_2 : ByteArray), v1 = .string x1_2 ∧ Aside0 (spec_orderNumbers.l1 kq x0_2 x1_2 = some r) ∧ Aside0 (kq ≤ kj2) ∧ Drawn0 w w')
        case atStart => exact ⟨(a1), (by first | rfl | (simp; done) | (simp [*]; done) | (simp [bne_nil_]; done)), H', ⟨Nat.le_refl _⟩, by repeat (first | exact Drawn0.refl _ | apply Drawn0.step)⟩
        case round =>
          clear H'
          try clear c2
          try clear p2
          try clear c4
          try clear c4b0
          try clear c4b1
          try clear c5
          try clear c5b0
          try clear c5b1
          try clear p6
          try clear q6
          try clear hx6
          try clear qi6
          try clear c7
          try clear c7b0
          try clear c7b1
          try clear c8
          try clear c8b0
          try clear c8b1
          try clear p2
          try clear p6
          try clear q6
          obtain ⟨x1_2, rfl, HA, HK2, ⟨m2, rfl⟩⟩ := hrel
          cases gk with
          | zero => exact absurd HA.out (by simp [spec_orderNumbers.l1])
          | succ k2 =>
            have H := HA.out
            clear HA
            simp only [spec_orderNumbers.l1] at H
            by_cases c10 : (x1_2.size : Int) > 0
            · rw [if_pos c10] at H
              have c10b0 : decide (0 < (x1_2.size : Int)) = true := decide_eq_true c10
              have c10b1 : decide (0 < x1_2.size) = true := decide_eq_true (by omega)
              clear c10
              (first | rw [c10b0] | (simp only [i64_w, i32_w]; rw [c10b0]) | skip)
              by_cases c11 : 0 < (x1_2.size : Int)
              · rw [if_pos c11] at H
                have c11b0 : decide (0 < (x1_2.size : Int)) = true := decide_eq_true c11
                have c11b1 : decide (0 < x1_2.size) = true := decide_eq_true (by omega)
                clear c11
                by_cases c13 : (bt x1_2 0) = 48
                · rw [if_pos c13] at H
                  have c13b0 : ((bt x1_2 0) == 48) = true := beq_iff_eq.mpr c13
                  have c13b1 : ((bt x1_2 0) != 48) = false := bne_eq_false_iff_eq.mpr c13
                  clear c13
                  by_cases c14 : 1 ≤ (x1_2.size : Int)
                  · rw [if_pos c14] at H
                    have c14b0 := eq_true c14
                    have c14b1 : decide (1 ≤ (x1_2.size : Int)) = true := decide_eq_true c14
                    clear c14
                    have H' := Aside0.mk H
                    clear H
                    have p12 : 0 ≤ (0 : Int) := (by omega)
                    have q12 : 0 < x1_2.size := (by have : (0 : Int) < (x1_2.size : Int) := of_decide_eq_true (by first | (with_reducible assumption) | assumption); omega)
                    have hx12 : ∀ h : 0 < x1_2.size, ((x1_2[0]'h).toNat : Int) = bt x1_2 0 := bt_at x1_2 0
                    clear p12
                    have qi12 : (0 < (x1_2.size : Int)) = True := eq_true (of_decide_eq_true (by first | (with_reducible assumption) | assumption))
                    replace q12 := eq_true q12
                    go_wp2
                    go_roundg k2
                    case measure => have := HJ2.out; have := HK2.out; omega
                    case rel => exact ⟨(x1_2.extract 1 x1_2.size), (by first | rfl | (simp; done) | (simp [*]; done) | (simp [bne_nil_]; done)), H', ⟨by have := HJ2.out; have := HK2.out; omega⟩, by repeat (first | exact Drawn0.refl _ | apply Drawn0.step)⟩
                  · rw [if_neg c14] at H
                    exact absurd H (by simp)
                · rw [if_neg c13] at H
                  have c13b0 : ((bt x1_2 0) == 48) = false := beq_eq_false_iff_ne.mpr c13
                  have c13b1 : ((bt x1_2 0) != 48) = true := bne_iff_ne.mpr c13
                  have H' := Aside0.mk H
                  clear H
                  have p12 : 0 ≤ (0 : Int) := (by omega)
                  have q12 : 0 < x1_2.size := (by have : (0 : Int) < (x1_2.size : Int) := of_decide_eq_true (by first | (with_reducible assumption) | assumption); omega)
                  have hx12 : ∀ h : 0 < x1_2.size, ((x1_2[0]'h).toNat : Int) = bt x1_2 0 := bt_at x1_2 0
                  clear p12
                  have qi12 : (0 < (x1_2.size : Int)) = True := eq_true (of_decide_eq_true (by first | (with_reducible assumption) | assumption))
                  replace q12 := eq_true q12
                  go_wp2
                  go_meet
                  case rel => exact ⟨_, (x1_2), (by first | rfl | (simp; done) | (simp [*]; done) | (simp [bne_nil_]; done)), H', ⟨by have := HJ2.out; have := HK2.out; first | omega | exact Nat.le_refl _⟩, by repeat (first | exact Drawn0.refl _ | apply Drawn0.step)⟩
              · rw [if_neg c11] at H
                exact absurd H (by simp)
            · rw [if_neg c10] at H
              have c10b0 : decide (0 < (x1_2.size : Int)) = false := decide_eq_false c10
              have c10b1 : decide (0 < x1_2.size) = false := decide_eq_false (by omega)
              clear c10
              (first | rw [c10b0] | (simp only [i64_w, i32_w]; rw [c10b0]) | skip)
              have H' := Aside0.mk H
              clear H
              go_wp2
              go_meet
              case rel => exact ⟨_, (x1_2), (by first | rfl | (simp; done) | (simp [*]; done) | (simp [bne_nil_]; done)), H', ⟨by have := HJ2.out; have := HK2.out; first | omega | exact Nat.le_refl _⟩, by repeat (first | exact Drawn0.refl _ | apply Drawn0.step)⟩
      case rest =>
        clear HC9
        try clear c1
        try clear p1
        try clear q1
        try clear hx1
        try clear qi1
        try clear c2
        try clear p2
        try clear c4
        try clear c4b0
        try clear c4b1
        try clear c5
        try clear c5b0
        try clear c5b1
        try clear p6
        try clear q6
        try clear hx6
        try clear qi6
        try clear c7
        try clear c7b0
        try clear c7b1
        try clear c8
        try clear c8b0
        try clear c8b1
        try clear c10
        try clear c10b0
        try clear c10b1
        try clear c11
        try clear c11b0
        try clear c11b1
        try clear p12
        try clear q12
        try clear hx12
        try clear qi12
        try clear c13
        try clear c13b0
        try clear c13b1
        try clear c14
        try clear c14b0
        try clear c14b1
        try clear p12
        try clear p2
        try clear p6
        try clear q12
        try clear q6
        obtain ⟨kq, x1_8, rfl, HA, HJ8, ⟨mc8, rfl⟩⟩ := hcut
        cases kq with
        | zero => exact absurd HA.out (by simp [spec_orderNumbers.j3])
        | succ kj8 =>
          have H := HA.out
          clear HA
          simp only [spec_orderNumbers.j3] at H
          by_cases c15 : (x0_2.size : Int) = (x1_8.size : Int)
          · rw [if_pos c15] at H
            have c15b0 : ((x0_2.size : Int) == (x1_8.size : Int)) = true := beq_iff_eq.mpr c15
            have c15b1 : ((x0_2.size : Int) != (x1_8.size : Int)) = false := bne_eq_false_iff_eq.mpr c15
            have c15b2 : (x0_2.size == x1_8.size) = true := by first | simpa using c15 | (simp at c15 ⊢; omega)
            clear c15
            replace H := Option.bind_eq_some_iff.mp H
            obtain ⟨t127, A160, H⟩ := H
            replace H : (some t127) = some r := H
            have A16 := Aside0.mk A160
            clear A160
            obtain rfl := Option.some.inj H
            go_wp2_with (first | ((with_reducible refine gate_callee (f := 38) rfl ?_); refine goesL_ (some 37) rfl rfl Tryd.func38 (by kernel_rfl) rfl #[.string x0_2, .string x1_8] rfl (by (try simp only [List.map_toArray, List.map_cons, List.map_nil]); first | done | rfl | (simp only [List.length_drop, List.length_take]; rfl)) ?_; (with_reducible refine (Giv.spec_order.calls x0_2 x1_8 t127 _ A16.out).mono ?_); rintro e w' ⟨rfl, ⟨nd, rfl⟩⟩; refine ⟨_, rfl, ?_⟩))
            go_ret
            exact ⟨by first | rfl | (simp; done) | (simp [*]; done) | (simp [bne_nil_]; done), by repeat (first | exact Drawn0.refl _ | apply Drawn0.step)⟩
          · rw [if_neg c15] at H
            have c15b0 : ((x0_2.size : Int) == (x1_8.size : Int)) = false := beq_eq_false_iff_ne.mpr c15
            have c15b1 : ((x0_2.size : Int) != (x1_8.size : Int)) = true := bne_iff_ne.mpr c15
            have c15b2 : (x0_2.size == x1_8.size) = false := by first | simpa using c15 | (simp at c15 ⊢; omega)
            replace H := Option.bind_eq_some_iff.mp H
            obtain ⟨t128, A170, H⟩ := H
            replace H : (some t128) = some r := H
            have A17 := Aside0.mk A170
            clear A170
            obtain rfl := Option.some.inj H
            go_wp2_with (first | ((with_reducible refine gate_callee (f := 27) rfl ?_); refine goesL_ (some 34) rfl rfl Tryd.func27 (by kernel_rfl) rfl #[.int .i64 (x0_2.size : Int), .int .i64 (x1_8.size : Int)] rfl (by (try simp only [List.map_toArray, List.map_cons, List.map_nil]); first | done | rfl | (simp only [List.length_drop, List.length_take]; rfl)) ?_; (with_reducible refine (spec_orderInts.calls (x0_2.size : Int) (x1_8.size : Int) t128 _ A17.out).mono ?_); rintro e w' ⟨rfl, ⟨nd, rfl⟩⟩; refine ⟨_, rfl, ?_⟩))
            go_ret
            exact ⟨by first | rfl | (simp; done) | (simp [*]; done) | (simp [bne_nil_]; done), by repeat (first | exact Drawn0.refl _ | apply Drawn0.step)⟩

/-! ### spec_Keyword: function 30 -/
def spec_Keyword.l0 : Nat → ByteArray → List ByteArray → Int → Option (Int)
  | 0, _, _, _ => none
  | k + 1, x0, x3, x4 => if x4 < (x3.length : Int) then (if 0 ≤ x4 then (if (rdOf ByteArray.empty x3 x4).toList = x0.toList then (some x4) else (spec_Keyword.l0 k x0 x3 (wrap64 (x4 + 1)))) else (none)) else (some (x3.length : Int))
def spec_Keyword.f (k : Nat) (a0 : ByteArray) : Option (Int) := spec_Keyword.l0 k a0 (([(⟨#[97, 108, 112, 104, 97]⟩ : ByteArray), (⟨#[98, 101, 116, 97]⟩ : ByteArray), (⟨#[109, 105, 108, 101, 115, 116, 111, 110, 101]⟩ : ByteArray), (⟨#[114, 99]⟩ : ByteArray), (⟨#[115, 110, 97, 112, 115, 104, 111, 116]⟩ : ByteArray), (⟨#[]⟩ : ByteArray), (⟨#[115, 112]⟩ : ByteArray)] : List ByteArray)) 0
theorem spec_Keyword.mono_l : ∀ k, (∀ y0 y1 y2, LeO (spec_Keyword.l0 k y0 y1 y2) (spec_Keyword.l0 (k + 1) y0 y1 y2))
  | 0 => fun _ _ _ r h => by simp [spec_Keyword.l0] at h
  | k + 1 => by
    have ih0 := spec_Keyword.mono_l k
    · intro y0 y1 y2
      unfold spec_Keyword.l0
      repeat' first
      | (with_reducible exact ih0 _ _ _)
      | (with_reducible exact LeO.refl _)
      | (with_reducible exact LeO.none _)
      | (with_reducible refine LeO.ite ?_ ?_)
      | (with_reducible refine LeO.bind ?_ (fun _ => ?_))
      | exact ih0 _ _ _
      | exact LeO.none _
      | refine LeO.ite ?_ ?_
      | refine LeO.bind ?_ (fun _ => ?_)
theorem spec_Keyword.mono : ∀ a0 k, LeO (spec_Keyword.f k a0) (spec_Keyword.f (k + 1) a0) := by
  intro a0 k
  have ih0 := spec_Keyword.mono_l k
  unfold spec_Keyword.f
  repeat' first
      | (with_reducible exact ih0 _ _ _)
      | (with_reducible exact LeO.refl _)
      | (with_reducible exact LeO.none _)
      | (with_reducible refine LeO.ite ?_ ?_)
      | (with_reducible refine LeO.bind ?_ (fun _ => ?_))
      | exact ih0 _ _ _
      | exact LeO.none _
      | refine LeO.ite ?_ ?_
      | refine LeO.bind ?_ (fun _ => ?_)
set_option maxHeartbeats 8000000 in
set_option maxRecDepth 100000 in
theorem spec_Keyword.calls (k : Nat) (a0 : ByteArray) (r : Int) (w : World) (h : spec_Keyword.f k a0 = some r) :
    Calls Tryd.prog 30 #[.string a0] w fun e w' => e = .returned (.int .i64 r) ∧ Below w.heap.size w w' := by
  have HB := Aside0.mk (Below.refl w.heap.size w)
  have H : (spec_Keyword.l0 k a0 (([(⟨#[97, 108, 112, 104, 97]⟩ : ByteArray), (⟨#[98, 101, 116, 97]⟩ : ByteArray), (⟨#[109, 105, 108, 101, 115, 116, 111, 110, 101]⟩ : ByteArray), (⟨#[114, 99]⟩ : ByteArray), (⟨#[115, 110, 97, 112, 115, 104, 111, 116]⟩ : ByteArray), (⟨#[]⟩ : ByteArray), (⟨#[115, 112]⟩ : ByteArray)] : List ByteArray)) 0) = some r := h
  clear h
  obtain ⟨y129, hy129⟩ : ∃ y_ : List ByteArray, y_ = (([(⟨#[97, 108, 112, 104, 97]⟩ : ByteArray), (⟨#[98, 101, 116, 97]⟩ : ByteArray), (⟨#[109, 105, 108, 101, 115, 116, 111, 110, 101]⟩ : ByteArray), (⟨#[114, 99]⟩ : ByteArray), (⟨#[115, 110, 97, 112, 115, 104, 111, 116]⟩ : ByteArray), (⟨#[]⟩ : ByteArray), (⟨#[115, 112]⟩ : ByteArray)] : List ByteArray)) := ⟨_, rfl⟩
  replace H : (spec_Keyword.l0 k a0 y129 0) = some r := by first | (rw [hy129]; with_reducible exact H) | (have H2_ := (Option.bind_some _ _).symm.trans H; rw [hy129]; with_reducible exact H2_) | (have H2_ := (Option.bind_some _ _).symm.trans H; with_reducible exact H2_) | with_reducible exact H | (rw [hy129]; exact H) | exact H
  have Ny129 := Aside0.mk hy129
  clear hy129
  have H' := Aside0.mk H
  clear H
  go_enter Tryd.func30, Tryd.ntmps30
  go_wp2_with (first | ((with_reducible refine gate_dst (N := 5) rfl ?_); refine Kd.R_lit Kd.string _ 9 ?hg (N := 5) ?hd (xs := ([(⟨#[97, 108, 112, 104, 97]⟩ : ByteArray), (⟨#[98, 101, 116, 97]⟩ : ByteArray), (⟨#[109, 105, 108, 101, 115, 116, 111, 110, 101]⟩ : ByteArray), (⟨#[114, 99]⟩ : ByteArray), (⟨#[115, 110, 97, 112, 115, 104, 111, 116]⟩ : ByteArray), (⟨#[]⟩ : ByteArray), (⟨#[115, 112]⟩ : ByteArray)] : List ByteArray)) (inner := [.string (⟨#[97, 108, 112, 104, 97]⟩ : ByteArray), .string (⟨#[98, 101, 116, 97]⟩ : ByteArray), .string (⟨#[109, 105, 108, 101, 115, 116, 111, 110, 101]⟩ : ByteArray), .string (⟨#[114, 99]⟩ : ByteArray), .string (⟨#[115, 110, 97, 112, 115, 104, 111, 116]⟩ : ByteArray), .string (⟨#[]⟩ : ByteArray), .string (⟨#[115, 112]⟩ : ByteArray)]) (ok := fun _ => True) (okp := fun _ => True) ?hr ?hp (fun _ hk => hk) trivial (Below.refl _ _) (Nat.le_refl _) (by simp) ?_; (case hd => rfl); (case hg => rfl); (case hr => first | (go_simp; done) | (go_simp; rfl)); (case hp => exact (Reps.one (show Kd.M Kd.string _ _ _ (⟨#[97, 108, 112, 104, 97]⟩ : ByteArray) [.string (⟨#[97, 108, 112, 104, 97]⟩ : ByteArray)] from rfl) (Reps.one (show Kd.M Kd.string _ _ _ (⟨#[98, 101, 116, 97]⟩ : ByteArray) [.string (⟨#[98, 101, 116, 97]⟩ : ByteArray)] from rfl) (Reps.one (show Kd.M Kd.string _ _ _ (⟨#[109, 105, 108, 101, 115, 116, 111, 110, 101]⟩ : ByteArray) [.string (⟨#[109, 105, 108, 101, 115, 116, 111, 110, 101]⟩ : ByteArray)] from rfl) (Reps.one (show Kd.M Kd.string _ _ _ (⟨#[114, 99]⟩ : ByteArray) [.string (⟨#[114, 99]⟩ : ByteArray)] from rfl) (Reps.one (show Kd.M Kd.string _ _ _ (⟨#[115, 110, 97, 112, 115, 104, 111, 116]⟩ : ByteArray) [.string (⟨#[115, 110, 97, 112, 115, 104, 111, 116]⟩ : ByteArray)] from rfl) (Reps.one (show Kd.M Kd.string _ _ _ (⟨#[]⟩ : ByteArray) [.string (⟨#[]⟩ : ByteArray)] from rfl) (Reps.one (show Kd.M Kd.string _ _ _ (⟨#[115, 112]⟩ : ByteArray) [.string (⟨#[115, 112]⟩ : ByteArray)] from rfl) (Reps.none _ _))))))))); intro v130 w2 ho3 hb hg_ hnew_; clear hg_ hnew_; (first | rw [← Ny129.out] at ho3 | (simp only [Int.reduceToNat] at ho3; rw [← Ny129.out] at ho3)); have n0_ := Aside0.mk (Kd.R_lower ho3 (below_size (by repeat (first | (with_reducible first | exact HB.out | apply below_alloc | apply pw_below_drewN | apply below_drew1) | exact HB.out)))); have n1_ := Aside0.mk (below_step (by repeat (first | (with_reducible first | exact HB.out | apply below_alloc | apply pw_below_drewN | apply below_drew1) | exact HB.out)) hb); clear HB; have HO131 := n0_; have HB := n1_; clear n0_ n1_; clear hb ho3))
  go_loopg [4] k (fun kq v4 w' => ∃ (x4_1 : Int), v4 = .int .i64 x4_1 ∧ Aside0 (spec_Keyword.l0 kq a0 y129 x4_1 = some r) ∧ Aside0 (kq ≤ k) ∧ Aside0 (Kd.R Kd.string 9 w' w.heap.size (fun _ => True) v130 y129) ∧ Aside0 (Below w.heap.size w w'))
  case atStart => exact ⟨(0), (by first | rfl | (simp; done) | (simp [*]; done) | (simp [bne_nil_]; done)), H', ⟨Nat.le_refl _⟩, ⟨by (with_reducible repeat (first | apply Kd.R_alloc | apply Kd.R_drewN | apply Kd.R_drew)); exact HO131.out⟩, ⟨by repeat (first | (with_reducible first | exact HB.out | apply below_alloc | apply pw_below_drewN | apply below_drew1) | exact HB.out)⟩⟩
  case round =>
    clear H'
    try clear p2
    try clear c3
    obtain ⟨x4_1, rfl, HA, HK1, HO_3, HB⟩ := hrel
    cases gk with
    | zero => exact absurd HA.out (by simp [spec_Keyword.l0])
    | succ k1 =>
      have H := HA.out
      clear HA
      simp only [spec_Keyword.l0] at H
      by_cases c4 : x4_1 < (y129.length : Int)
      · rw [if_pos c4] at H
        have c4b0 : decide (x4_1 < (y129.length : Int)) = true := decide_eq_true c4
        clear c4
        by_cases c5 : 0 ≤ x4_1
        · rw [if_pos c5] at H
          have c5b0 : decide (0 ≤ x4_1) = true := decide_eq_true c5
          clear c5
          by_cases c6 : (rdOf ByteArray.empty y129 x4_1).toList = a0.toList
          · rw [if_pos c6] at H
            have c6b0 : ((rdOf ByteArray.empty y129 x4_1).toList == a0.toList) = true := beq_iff_eq.mpr c6
            have c6b1 : ((rdOf ByteArray.empty y129 x4_1).toList != a0.toList) = false := bne_eq_false_iff_eq.mpr c6
            clear c6
            obtain rfl := Option.some.inj H
            obtain ⟨Ao7, co7, eo7⟩ := Kd.R_slice HO_3.out
            subst eo7
            have p132 : 0 ≤ (x4_1 : Int) := of_decide_eq_true (by first | (with_reducible assumption) | assumption)
            have q132 : x4_1 < (y129.length : Int) := of_decide_eq_true (by first | (with_reducible assumption) | assumption)
            obtain ⟨ad132, e132, hx132_0⟩ := Kd.at_string (Kd.R_reads' HO_3.out).2.2 x4_1 p132 q132
            cases e132
            replace p132 := eq_true p132
            replace q132 := eq_true q132
            go_wp2
            go_ret
            exact ⟨by first | rfl | (simp [errW_none, errW_some] <;> rfl) | (simp [*, errW_none, errW_some] <;> rfl) | (simp [bne_nil_]; done), by repeat (first | (with_reducible first | exact HB.out | apply below_alloc | apply pw_below_drewN | apply below_drew1) | exact HB.out)⟩
          · rw [if_neg c6] at H
            have c6b0 : ((rdOf ByteArray.empty y129 x4_1).toList == a0.toList) = false := beq_eq_false_iff_ne.mpr c6
            have c6b1 : ((rdOf ByteArray.empty y129 x4_1).toList != a0.toList) = true := bne_iff_ne.mpr c6
            have H' := Aside0.mk H
            clear H
            obtain ⟨Ao8, co8, eo8⟩ := Kd.R_slice HO_3.out
            subst eo8
            have p132 : 0 ≤ (x4_1 : Int) := of_decide_eq_true (by first | (with_reducible assumption) | assumption)
            have q132 : x4_1 < (y129.length : Int) := of_decide_eq_true (by first | (with_reducible assumption) | assumption)
            obtain ⟨ad132, e132, hx132_0⟩ := Kd.at_string (Kd.R_reads' HO_3.out).2.2 x4_1 p132 q132
            cases e132
            replace p132 := eq_true p132
            replace q132 := eq_true q132
            go_wp2
            go_roundg k1
            case measure => have := HK1.out; omega
            case rel => exact ⟨(wrap64 (x4_1 + 1)), (by first | rfl | (simp; done) | (simp [*]; done) | (simp [bne_nil_]; done)), H', ⟨by have := HK1.out; omega⟩, ⟨by (with_reducible repeat (first | apply Kd.R_alloc | apply Kd.R_drewN | apply Kd.R_drew)); exact HO_3.out⟩, ⟨by repeat (first | (with_reducible first | exact HB.out | apply below_alloc | apply pw_below_drewN | apply below_drew1) | exact HB.out)⟩⟩
        · rw [if_neg c5] at H
          exact absurd H (by simp)
      · rw [if_neg c4] at H
        have c4b0 : decide (x4_1 < (y129.length : Int)) = false := decide_eq_false c4
        clear c4
        obtain rfl := Option.some.inj H
        obtain ⟨Ao9, co9, eo9⟩ := Kd.R_slice HO_3.out
        subst eo9
        go_wp2
        go_ret
        exact ⟨by first | rfl | (simp [errW_none, errW_some] <;> rfl) | (simp [*, errW_none, errW_some] <;> rfl) | (simp [bne_nil_]; done), by repeat (first | (with_reducible first | exact HB.out | apply below_alloc | apply pw_below_drewN | apply below_drew1) | exact HB.out)⟩

/-! ### spec_mavenQualifiers: function 29 -/
def spec_mavenQualifiers.f (k : Nat) (a0 : ByteArray) (a1 : ByteArray) : Option (Int) := (spec_Keyword.f k a0).bind fun t133 => ((spec_Keyword.f k a1).bind fun t134 => (if t133 = t134 then ((Giv.spec_order.f a0 a1).bind fun t135 => (some t135)) else ((spec_orderInts.f t133 t134).bind fun t136 => (some t136))))
theorem spec_mavenQualifiers.mono : ∀ a0 a1 k, LeO (spec_mavenQualifiers.f k a0 a1) (spec_mavenQualifiers.f (k + 1) a0 a1) := by
  intro a0 a1 k
  unfold spec_mavenQualifiers.f
  repeat' first
      | (with_reducible exact spec_Keyword.mono _ _)
      | (with_reducible exact LeO.refl _)
      | (with_reducible exact LeO.none _)
      | (with_reducible refine LeO.ite ?_ ?_)
      | (with_reducible refine LeO.bind ?_ (fun _ => ?_))
      | exact spec_Keyword.mono _ _
      | exact LeO.none _
      | refine LeO.ite ?_ ?_
      | refine LeO.bind ?_ (fun _ => ?_)
set_option maxHeartbeats 8000000 in
set_option maxRecDepth 100000 in
theorem spec_mavenQualifiers.calls (k : Nat) (a0 : ByteArray) (a1 : ByteArray) (r : Int) (w : World) (h : spec_mavenQualifiers.f k a0 a1 = some r) :
    Calls Tryd.prog 29 #[.string a0, .string a1] w fun e w' => e = .returned (.int .i64 r) ∧ Below w.heap.size w w' := by
  have HB := Aside0.mk (Below.refl w.heap.size w)
  have H : ((spec_Keyword.f k a0).bind fun t133 => ((spec_Keyword.f k a1).bind fun t134 => (if t133 = t134 then ((Giv.spec_order.f a0 a1).bind fun t135 => (some t135)) else ((spec_orderInts.f t133 t134).bind fun t136 => (some t136))))) = some r := h
  clear h
  replace H := Option.bind_eq_some_iff.mp H
  obtain ⟨t133, A30, H⟩ := H
  replace H : ((spec_Keyword.f k a1).bind fun t134 => (if t133 = t134 then ((Giv.spec_order.f a0 a1).bind fun t135 => (some t135)) else ((spec_orderInts.f t133 t134).bind fun t136 => (some t136)))) = some r := H
  have A3 := Aside0.mk A30
  clear A30
  replace H := Option.bind_eq_some_iff.mp H
  obtain ⟨t134, A40, H⟩ := H
  replace H : (if t133 = t134 then ((Giv.spec_order.f a0 a1).bind fun t135 => (some t135)) else ((spec_orderInts.f t133 t134).bind fun t136 => (some t136))) = some r := H
  have A4 := Aside0.mk A40
  clear A40
  by_cases c5 : t133 = t134
  · rw [if_pos c5] at H
    have c5b0 : (t133 == t134) = true := beq_iff_eq.mpr c5
    have c5b1 : (t133 != t134) = false := bne_eq_false_iff_eq.mpr c5
    clear c5
    replace H := Option.bind_eq_some_iff.mp H
    obtain ⟨t135, A60, H⟩ := H
    replace H : (some t135) = some r := H
    have A6 := Aside0.mk A60
    clear A60
    obtain rfl := Option.some.inj H
    go_enter Tryd.func29, Tryd.ntmps29
    go_wp2_with (first | ((with_reducible refine gate_callee (f := 30) rfl ?_); refine goesL_ (some 8) rfl rfl Tryd.func30 (by kernel_rfl) rfl #[.string a0] rfl (by (try simp only [List.map_toArray, List.map_cons, List.map_nil]); first | done | rfl | (simp only [List.length_drop, List.length_take]; rfl)) ?_; (with_reducible refine (spec_Keyword.calls k a0 t133 _ A3.out).mono ?_); rintro e w7 ⟨rfl, hb⟩; refine ⟨_, rfl, ?_⟩; have n0_ := Aside0.mk (below_step (by repeat (first | (with_reducible first | exact HB.out | apply below_alloc | apply pw_below_drewN | apply below_drew1) | exact HB.out)) hb); clear HB; have HB := n0_; clear n0_; (try clear hb); (try clear hb2); (try clear hk); (try clear hi)) | ((with_reducible refine gate_callee (f := 30) rfl ?_); refine goesL_ (some 10) rfl rfl Tryd.func30 (by kernel_rfl) rfl #[.string a1] rfl (by (try simp only [List.map_toArray, List.map_cons, List.map_nil]); first | done | rfl | (simp only [List.length_drop, List.length_take]; rfl)) ?_; (with_reducible refine (spec_Keyword.calls k a1 t134 _ A4.out).mono ?_); rintro e w8 ⟨rfl, hb⟩; refine ⟨_, rfl, ?_⟩; have n0_ := Aside0.mk (below_step (by repeat (first | (with_reducible first | exact HB.out | apply below_alloc | apply pw_below_drewN | apply below_drew1) | exact HB.out)) hb); clear HB; have HB := n0_; clear n0_; (try clear hb); (try clear hb2); (try clear hk); (try clear hi)) | ((with_reducible refine gate_callee (f := 38) rfl ?_); refine goesL_ (some 19) rfl rfl Tryd.func38 (by kernel_rfl) rfl #[.string a0, .string a1] rfl (by (try simp only [List.map_toArray, List.map_cons, List.map_nil]); first | done | rfl | (simp only [List.length_drop, List.length_take]; rfl)) ?_; (with_reducible refine (Giv.spec_order.calls a0 a1 t135 _ A6.out).mono ?_); rintro e w' ⟨rfl, ⟨nd, rfl⟩⟩; refine ⟨_, rfl, ?_⟩))
    go_ret
    exact ⟨by first | rfl | (simp [errW_none, errW_some] <;> rfl) | (simp [*, errW_none, errW_some] <;> rfl) | (simp [bne_nil_]; done), by repeat (first | (with_reducible first | exact HB.out | apply below_alloc | apply pw_below_drewN | apply below_drew1) | exact HB.out)⟩
  · rw [if_neg c5] at H
    have c5b0 : (t133 == t134) = false := beq_eq_false_iff_ne.mpr c5
    have c5b1 : (t133 != t134) = true := bne_iff_ne.mpr c5
    replace H := Option.bind_eq_some_iff.mp H
    obtain ⟨t136, A90, H⟩ := H
    replace H : (some t136) = some r := H
    have A9 := Aside0.mk A90
    clear A90
    obtain rfl := Option.some.inj H
    go_enter Tryd.func29, Tryd.ntmps29
    go_wp2_with (first | ((with_reducible refine gate_callee (f := 30) rfl ?_); refine goesL_ (some 8) rfl rfl Tryd.func30 (by kernel_rfl) rfl #[.string a0] rfl (by (try simp only [List.map_toArray, List.map_cons, List.map_nil]); first | done | rfl | (simp only [List.length_drop, List.length_take]; rfl)) ?_; (with_reducible refine (spec_Keyword.calls k a0 t133 _ A3.out).mono ?_); rintro e w10 ⟨rfl, hb⟩; refine ⟨_, rfl, ?_⟩; have n0_ := Aside0.mk (below_step (by repeat (first | (with_reducible first | exact HB.out | apply below_alloc | apply pw_below_drewN | apply below_drew1) | exact HB.out)) hb); clear HB; have HB := n0_; clear n0_; (try clear hb); (try clear hb2); (try clear hk); (try clear hi)) | ((with_reducible refine gate_callee (f := 30) rfl ?_); refine goesL_ (some 10) rfl rfl Tryd.func30 (by kernel_rfl) rfl #[.string a1] rfl (by (try simp only [List.map_toArray, List.map_cons, List.map_nil]); first | done | rfl | (simp only [List.length_drop, List.length_take]; rfl)) ?_; (with_reducible refine (spec_Keyword.calls k a1 t134 _ A4.out).mono ?_); rintro e w11 ⟨rfl, hb⟩; refine ⟨_, rfl, ?_⟩; have n0_ := Aside0.mk (below_step (by repeat (first | (with_reducible first | exact HB.out | apply below_alloc | apply pw_below_drewN | apply below_drew1) | exact HB.out)) hb); clear HB; have HB := n0_; clear n0_; (try clear hb); (try clear hb2); (try clear hk); (try clear hi)) | ((with_reducible refine gate_callee (f := 27) rfl ?_); refine goesL_ (some 16) rfl rfl Tryd.func27 (by kernel_rfl) rfl #[.int .i64 t133, .int .i64 t134] rfl (by (try simp only [List.map_toArray, List.map_cons, List.map_nil]); first | done | rfl | (simp only [List.length_drop, List.length_take]; rfl)) ?_; (with_reducible refine (spec_orderInts.calls t133 t134 t136 _ A9.out).mono ?_); rintro e w' ⟨rfl, ⟨nd, rfl⟩⟩; refine ⟨_, rfl, ?_⟩))
    go_ret
    exact ⟨by first | rfl | (simp [errW_none, errW_some] <;> rfl) | (simp [*, errW_none, errW_some] <;> rfl) | (simp [bne_nil_]; done), by repeat (first | (with_reducible first | exact HB.out | apply below_alloc | apply pw_below_drewN | apply below_drew1) | exact HB.out)⟩

/-! ### spec_mavenOne: function 20 -/
mutual
def spec_mavenOne.j0 : Nat → Bool → Bool → Bool → ByteArray → ByteArray → Bool → ByteArray → ByteArray → Bool → Option (Int × Bool)
  | 0, _, _, _, _, _, _, _, _, _ => none
  | k + 1, x6, x7, x40, x138000, x138001, x138002, x139000, x139001, x139002 => if x40 = true then ((spec_orderNumbers.f k x138001 x139001).bind fun t146 => (some (t146, true))) else (if x6 = true then (spec_mavenOne.j1 k x6 x7 false x138000 x138001 x138002 x139000 x139001 x139002) else (spec_mavenOne.j1 k x6 x7 (!x7) x138000 x138001 x138002 x139000 x139001 x139002))
def spec_mavenOne.j1 : Nat → Bool → Bool → Bool → ByteArray → ByteArray → Bool → ByteArray → ByteArray → Bool → Option (Int × Bool)
  | 0, _, _, _, _, _, _, _, _, _ => none
  | k + 1, x6, x7, x50, x138000, x138001, x138002, x139000, x139001, x139002 => if x50 = true then ((spec_mavenQualifiers.f k x138001 x139001).bind fun t147 => (some (t147, true))) else (if x6 = true then (if x138002 = true then ((spec_Keyword.f k x139001).bind fun t148 => ((spec_Keyword.f k (⟨#[115, 112]⟩ : ByteArray)).bind fun t149 => (spec_mavenOne.j2 k x6 x7 (decide (t148 > t149)) x138000 x138001 x138002 x139000 x139001 x139002))) else (spec_mavenOne.j2 k x6 x7 false x138000 x138001 x138002 x139000 x139001 x139002)) else (spec_mavenOne.j2 k x6 x7 false x138000 x138001 x138002 x139000 x139001 x139002))
def spec_mavenOne.j2 : Nat → Bool → Bool → Bool → ByteArray → ByteArray → Bool → ByteArray → ByteArray → Bool → Option (Int × Bool)
  | 0, _, _, _, _, _, _, _, _, _ => none
  | k + 1, x6, x7, x62, x138000, x138001, x138002, x139000, x139001, x139002 => if x62 = true then (some ((-1), true)) else (if x7 = true then (if x139002 = true then ((spec_Keyword.f k x138001).bind fun t150 => ((spec_Keyword.f k (⟨#[115, 112]⟩ : ByteArray)).bind fun t151 => (spec_mavenOne.j3 k x6 (decide (t150 > t151))))) else (spec_mavenOne.j3 k x6 false)) else (spec_mavenOne.j3 k x6 false))
def spec_mavenOne.j3 : Nat → Bool → Bool → Option (Int × Bool)
  | 0, _, _ => none
  | k + 1, x6, x75 => if x75 = true then (some (1, true)) else (if x6 = true then (some (1, true)) else (some ((-1), true)))
end
def spec_mavenOne.f (k : Nat) (a0_0 : ByteArray) (a0_1 : ByteArray) (a0_2 : Bool) (a1_0 : ByteArray) (a1_1 : ByteArray) (a1_2 : Bool) : Option (Int × Bool) := (spec_allDigits.f k a0_1).bind fun t139 => ((spec_allDigits.f k a1_1).bind fun t140 => (if a0_0.toList = a1_0.toList then (if t139 = true then (spec_mavenOne.j0 k t139 t140 t140 a0_0 a0_1 a0_2 a1_0 a1_1 a1_2) else (spec_mavenOne.j0 k t139 t140 false a0_0 a0_1 a0_2 a1_0 a1_1 a1_2)) else ((spec_TokenOrder.f k a0_0 a0_1 a0_2).bind fun bt141 => ((spec_TokenOrder.f k a1_0 a1_1 a1_2).bind fun bt143 => ((spec_orderInts.f bt141.1 bt143.1).bind fun t145 => (if bt141.2 = true then (some (t145, bt143.2)) else (some (t145, false))))))))
theorem spec_mavenOne.mono_l : ∀ k, (∀ y0 y1 y2 y3 y4 y5 y6 y7 y8, LeO (spec_mavenOne.j0 k y0 y1 y2 y3 y4 y5 y6 y7 y8) (spec_mavenOne.j0 (k + 1) y0 y1 y2 y3 y4 y5 y6 y7 y8)) ∧ (∀ y0 y1 y2 y3 y4 y5 y6 y7 y8, LeO (spec_mavenOne.j1 k y0 y1 y2 y3 y4 y5 y6 y7 y8) (spec_mavenOne.j1 (k + 1) y0 y1 y2 y3 y4 y5 y6 y7 y8)) ∧ (∀ y0 y1 y2 y3 y4 y5 y6 y7 y8, LeO (spec_mavenOne.j2 k y0 y1 y2 y3 y4 y5 y6 y7 y8) (spec_mavenOne.j2 (k + 1) y0 y1 y2 y3 y4 y5 y6 y7 y8)) ∧ (∀ y0 y1, LeO (spec_mavenOne.j3 k y0 y1) (spec_mavenOne.j3 (k + 1) y0 y1))
  | 0 => ⟨fun _ _ _ _ _ _ _ _ _ r h => by simp [spec_mavenOne.j0] at h, fun _ _ _ _ _ _ _ _ _ r h => by simp [spec_mavenOne.j1] at h, fun _ _ _ _ _ _ _ _ _ r h => by simp [spec_mavenOne.j2] at h, fun _ _ r h => by simp [spec_mavenOne.j3] at h⟩
  | k + 1 => by
    obtain ⟨ih0, ih1, ih2, ih3⟩ := spec_mavenOne.mono_l k
    refine ⟨?_, ?_, ?_, ?_⟩
    · intro y0 y1 y2 y3 y4 y5 y6 y7 y8
      unfold spec_mavenOne.j0
      repeat' first
      | (with_reducible exact ih0 _ _ _ _ _ _ _ _ _)
      | (with_reducible exact ih1 _ _ _ _ _ _ _ _ _)
      | (with_reducible exact ih2 _ _ _ _ _ _ _ _ _)
      | (with_reducible exact ih3 _ _)
      | (with_reducible exact spec_Keyword.mono _ _)
      | (with_reducible exact spec_TokenOrder.mono _ _ _ _)
      | (with_reducible exact spec_allDigits.mono _ _)
      | (with_reducible exact spec_mavenQualifiers.mono _ _ _)
      | (with_reducible exact spec_orderNumbers.mono _ _ _)
      | (with_reducible exact LeO.refl _)
      | (with_reducible exact LeO.none _)
      | (with_reducible refine LeO.ite ?_ ?_)
      | (with_reducible refine LeO.bind ?_ (fun _ => ?_))
      | exact ih0 _ _ _ _ _ _ _ _ _
      | exact ih1 _ _ _ _ _ _ _ _ _
      | exact ih2 _ _ _ _ _ _ _ _ _
      | exact ih3 _ _
      | exact spec_Keyword.mono _ _
      | exact spec_TokenOrder.mono _ _ _ _
      | exact spec_allDigits.mono _ _
      | exact spec_mavenQualifiers.mono _ _ _
      | exact spec_orderNumbers.mono _ _ _
      | exact LeO.none _
      | refine LeO.ite ?_ ?_
      | refine LeO.bind ?_ (fun _ => ?_)
    · intro y0 y1 y2 y3 y4 y5 y6 y7 y8
      unfold spec_mavenOne.j1
      repeat' first
      | (with_reducible exact ih0 _ _ _ _ _ _ _ _ _)
      | (with_reducible exact ih1 _ _ _ _ _ _ _ _ _)
      | (with_reducible exact ih2 _ _ _ _ _ _ _ _ _)
      | (with_reducible exact ih3 _ _)
      | (with_reducible exact spec_Keyword.mono _ _)
      | (with_reducible exact spec_TokenOrder.mono _ _ _ _)
      | (with_reducible exact spec_allDigits.mono _ _)
      | (with_reducible exact spec_mavenQualifiers.mono _ _ _)
      | (with_reducible exact spec_orderNumbers.mono _ _ _)
      | (with_reducible exact LeO.refl _)
      | (with_reducible exact LeO.none _)
      | (with_reducible refine LeO.ite ?_ ?_)
      | (with_reducible refine LeO.bind ?_ (fun _ => ?_))
      | exact ih0 _ _ _ _ _ _ _ _ _
      | exact ih1 _ _ _ _ _ _ _ _ _
      | exact ih2 _ _ _ _ _ _ _ _ _
      | exact ih3 _ _
      | exact spec_Keyword.mono _ _
      | exact spec_TokenOrder.mono _ _ _ _
      | exact spec_allDigits.mono _ _
      | exact spec_mavenQualifiers.mono _ _ _
      | exact spec_orderNumbers.mono _ _ _
      | exact LeO.none _
      | refine LeO.ite ?_ ?_
      | refine LeO.bind ?_ (fun _ => ?_)
    · intro y0 y1 y2 y3 y4 y5 y6 y7 y8
      unfold spec_mavenOne.j2
      repeat' first
      | (with_reducible exact ih0 _ _ _ _ _ _ _ _ _)
      | (with_reducible exact ih1 _ _ _ _ _ _ _ _ _)
      | (with_reducible exact ih2 _ _ _ _ _ _ _ _ _)
      | (with_reducible exact ih3 _ _)
      | (with_reducible exact spec_Keyword.mono _ _)
      | (with_reducible exact spec_TokenOrder.mono _ _ _ _)
      | (with_reducible exact spec_allDigits.mono _ _)
      | (with_reducible exact spec_mavenQualifiers.mono _ _ _)
      | (with_reducible exact spec_orderNumbers.mono _ _ _)
      | (with_reducible exact LeO.refl _)
      | (with_reducible exact LeO.none _)
      | (with_reducible refine LeO.ite ?_ ?_)
      | (with_reducible refine LeO.bind ?_ (fun _ => ?_))
      | exact ih0 _ _ _ _ _ _ _ _ _
      | exact ih1 _ _ _ _ _ _ _ _ _
      | exact ih2 _ _ _ _ _ _ _ _ _
      | exact ih3 _ _
      | exact spec_Keyword.mono _ _
      | exact spec_TokenOrder.mono _ _ _ _
      | exact spec_allDigits.mono _ _
      | exact spec_mavenQualifiers.mono _ _ _
      | exact spec_orderNumbers.mono _ _ _
      | exact LeO.none _
      | refine LeO.ite ?_ ?_
      | refine LeO.bind ?_ (fun _ => ?_)
    · intro y0 y1
      unfold spec_mavenOne.j3
      repeat' first
      | (with_reducible exact ih0 _ _ _ _ _ _ _ _ _)
      | (with_reducible exact ih1 _ _ _ _ _ _ _ _ _)
      | (with_reducible exact ih2 _ _ _ _ _ _ _ _ _)
      | (with_reducible exact ih3 _ _)
      | (with_reducible exact spec_Keyword.mono _ _)
      | (with_reducible exact spec_TokenOrder.mono _ _ _ _)
      | (with_reducible exact spec_allDigits.mono _ _)
      | (with_reducible exact spec_mavenQualifiers.mono _ _ _)
      | (with_reducible exact spec_orderNumbers.mono _ _ _)
      | (with_reducible exact LeO.refl _)
      | (with_reducible exact LeO.none _)
      | (with_reducible refine LeO.ite ?_ ?_)
      | (with_reducible refine LeO.bind ?_ (fun _ => ?_))
      | exact ih0 _ _ _ _ _ _ _ _ _
      | exact ih1 _ _ _ _ _ _ _ _ _
      | exact ih2 _ _ _ _ _ _ _ _ _
      | exact ih3 _ _
      | exact spec_Keyword.mono _ _
      | exact spec_TokenOrder.mono _ _ _ _
      | exact spec_allDigits.mono _ _
      | exact spec_mavenQualifiers.mono _ _ _
      | exact spec_orderNumbers.mono _ _ _
      | exact LeO.none _
      | refine LeO.ite ?_ ?_
      | refine LeO.bind ?_ (fun _ => ?_)
theorem spec_mavenOne.mono : ∀ a0 a1 a2 a3 a4 a5 k, LeO (spec_mavenOne.f k a0 a1 a2 a3 a4 a5) (spec_mavenOne.f (k + 1) a0 a1 a2 a3 a4 a5) := by
  intro a0 a1 a2 a3 a4 a5 k
  obtain ⟨ih0, ih1, ih2, ih3⟩ := spec_mavenOne.mono_l k
  unfold spec_mavenOne.f
  repeat' first
      | (with_reducible exact ih0 _ _ _ _ _ _ _ _ _)
      | (with_reducible exact ih1 _ _ _ _ _ _ _ _ _)
      | (with_reducible exact ih2 _ _ _ _ _ _ _ _ _)
      | (with_reducible exact ih3 _ _)
      | (with_reducible exact spec_Keyword.mono _ _)
      | (with_reducible exact spec_TokenOrder.mono _ _ _ _)
      | (with_reducible exact spec_allDigits.mono _ _)
      | (with_reducible exact spec_mavenQualifiers.mono _ _ _)
      | (with_reducible exact spec_orderNumbers.mono _ _ _)
      | (with_reducible exact LeO.refl _)
      | (with_reducible exact LeO.none _)
      | (with_reducible refine LeO.ite ?_ ?_)
      | (with_reducible refine LeO.bind ?_ (fun _ => ?_))
      | exact ih0 _ _ _ _ _ _ _ _ _
      | exact ih1 _ _ _ _ _ _ _ _ _
      | exact ih2 _ _ _ _ _ _ _ _ _
      | exact ih3 _ _
      | exact spec_Keyword.mono _ _
      | exact spec_TokenOrder.mono _ _ _ _
      | exact spec_allDigits.mono _ _
      | exact spec_mavenQualifiers.mono _ _ _
      | exact spec_orderNumbers.mono _ _ _
      | exact LeO.none _
      | refine LeO.ite ?_ ?_
      | refine LeO.bind ?_ (fun _ => ?_)
set_option maxHeartbeats 8000000 in
set_option maxRecDepth 100000 in
theorem spec_mavenOne.calls (k : Nat) (a0_0 : ByteArray) (a0_1 : ByteArray) (a0_2 : Bool) (a1_0 : ByteArray) (a1_1 : ByteArray) (a1_2 : Bool) (r1 : Int) (r2 : Bool) (w : World) (h : spec_mavenOne.f k a0_0 a0_1 a0_2 a1_0 a1_1 a1_2 = some (r1, r2)) :
    Calls Tryd.prog 20 #[.agg #[.string a0_0, .string a0_1, .bool a0_2], .agg #[.string a1_0, .string a1_1, .bool a1_2]] w fun e w' => e = .returned (.tuple #[.int .i64 r1, .bool r2]) ∧ Below w.heap.size w w' := by
  have hu31 := Tryd.underlying31
  have HB := Aside0.mk (Below.refl w.heap.size w)
  have H : ((spec_allDigits.f k a0_1).bind fun t139 => ((spec_allDigits.f k a1_1).bind fun t140 => (if a0_0.toList = a1_0.toList then (if t139 = true then (spec_mavenOne.j0 k t139 t140 t140 a0_0 a0_1 a0_2 a1_0 a1_1 a1_2) else (spec_mavenOne.j0 k t139 t140 false a0_0 a0_1 a0_2 a1_0 a1_1 a1_2)) else ((spec_TokenOrder.f k a0_0 a0_1 a0_2).bind fun bt141 => ((spec_TokenOrder.f k a1_0 a1_1 a1_2).bind fun bt143 => ((spec_orderInts.f bt141.1 bt143.1).bind fun t145 => (if bt141.2 = true then (some (t145, bt143.2)) else (some (t145, false))))))))) = some (r1, r2) := h
  clear h
  replace H := Option.bind_eq_some_iff.mp H
  obtain ⟨t139, A30, H⟩ := H
  replace H : ((spec_allDigits.f k a1_1).bind fun t140 => (if a0_0.toList = a1_0.toList then (if t139 = true then (spec_mavenOne.j0 k t139 t140 t140 a0_0 a0_1 a0_2 a1_0 a1_1 a1_2) else (spec_mavenOne.j0 k t139 t140 false a0_0 a0_1 a0_2 a1_0 a1_1 a1_2)) else ((spec_TokenOrder.f k a0_0 a0_1 a0_2).bind fun bt141 => ((spec_TokenOrder.f k a1_0 a1_1 a1_2).bind fun bt143 => ((spec_orderInts.f bt141.1 bt143.1).bind fun t145 => (if bt141.2 = true then (some (t145, bt143.2)) else (some (t145, false)))))))) = some (r1, r2) := H
  have A3 := Aside0.mk A30
  clear A30
  replace H := Option.bind_eq_some_iff.mp H
  obtain ⟨t140, A40, H⟩ := H
  replace H : (if a0_0.toList = a1_0.toList then (if t139 = true then (spec_mavenOne.j0 k t139 t140 t140 a0_0 a0_1 a0_2 a1_0 a1_1 a1_2) else (spec_mavenOne.j0 k t139 t140 false a0_0 a0_1 a0_2 a1_0 a1_1 a1_2)) else ((spec_TokenOrder.f k a0_0 a0_1 a0_2).bind fun bt141 => ((spec_TokenOrder.f k a1_0 a1_1 a1_2).bind fun bt143 => ((spec_orderInts.f bt141.1 bt143.1).bind fun t145 => (if bt141.2 = true then (some (t145, bt143.2)) else (some (t145, false))))))) = some (r1, r2) := H
  have A4 := Aside0.mk A40
  clear A40
  by_cases c5 : a0_0.toList = a1_0.toList
  · rw [if_pos c5] at H
    have c5b0 : (a0_0.toList == a1_0.toList) = true := beq_iff_eq.mpr c5
    have c5b1 : (a0_0.toList != a1_0.toList) = false := bne_eq_false_iff_eq.mpr c5
    clear c5
    have HC6 := Aside0.mk H
    clear H
    go_enter Tryd.func20, Tryd.ntmps20
    go_upto_region 6 with (first | ((with_reducible refine gate_dst (N := 2) rfl ?_); refine box_event ?hg (N := 2) ?hd (cs := #[.string a0_0, .string a0_1, .bool a0_2]) (t := 31) ?hr ?_; (case hd => rfl); (case hg => rfl); (case hr => first | (go_simp; done) | (go_simp; rfl)); intro gb137 hg w7 hbox hb; have n0_ := Aside0.mk (below_step (by repeat (first | (with_reducible first | exact HB.out | apply below_alloc | apply pw_below_drewN | apply below_drew1) | exact HB.out)) hb); have n1_ := Aside0.mk (hbox); have n2_ := Aside0.mk ((by rw [hg]; exact (below_size (by repeat (first | (with_reducible first | exact HB.out | apply below_alloc | apply pw_below_drewN | apply below_drew1) | exact HB.out))) : w.heap.size ≤ gb137)); have n3_ := Aside0.mk ((by rw [hg]; exact (below_size (by repeat (first | (with_reducible first | exact HB.out | apply below_alloc | apply pw_below_drewN | apply below_drew1) | exact HB.out))) : w.heap.size ≤ gb137)); clear HB; have HB := n0_; have BK137 := n1_; have GW137 := n2_; have GE137 := n3_; clear n0_ n1_ n2_ n3_; clear hb hbox hg) | ((with_reducible refine gate_dst (N := 3) rfl ?_); refine box_event ?hg (N := 3) ?hd (cs := #[.string a1_0, .string a1_1, .bool a1_2]) (t := 31) ?hr ?_; (case hd => rfl); (case hg => rfl); (case hr => first | (go_simp; done) | (go_simp; rfl)); intro gb138 hg w8 hbox hb; have n0_ := Aside0.mk (blk_below (g := gb137) (o := .cells #[.string a0_0, .string a0_1, .bool a0_2] 31 (0, 0)) (by (with_reducible repeat (first | refine blk_drewN ?_ _ | refine blk_drew ?_ | refine blk_alloc ?_ _)); exact BK137.out) hb); have n1_ := Aside0.mk (below_step (by repeat (first | (with_reducible first | exact HB.out | apply below_alloc | apply pw_below_drewN | apply below_drew1 | refine below_set ?_ GE137.out) | exact HB.out)) hb); have n2_ := Aside0.mk (hbox); have n3_ := Aside0.mk ((by rw [hg]; exact (below_size (by repeat (first | (with_reducible first | exact HB.out | apply below_alloc | apply pw_below_drewN | apply below_drew1 | refine below_set ?_ GE137.out) | exact HB.out))) : w.heap.size ≤ gb138)); have n4_ := Aside0.mk ((by rw [hg]; exact (below_size (by repeat (first | (with_reducible first | exact HB.out | apply below_alloc | apply pw_below_drewN | apply below_drew1 | refine below_set ?_ GE137.out) | exact HB.out))) : w.heap.size ≤ gb138)); have n5_ := Aside0.mk ((by rw [hg]; exact Nat.ne_of_lt (blk_lt (g := gb137) (o := .cells #[.string a0_0, .string a0_1, .bool a0_2] 31 (0, 0)) (by (with_reducible repeat (first | refine blk_drewN ?_ _ | refine blk_drew ?_ | refine blk_alloc ?_ _)); exact BK137.out)) : gb137 ≠ gb138)); have n6_ := Aside0.mk ((by rw [hg]; exact Nat.ne_of_gt (blk_lt (g := gb137) (o := .cells #[.string a0_0, .string a0_1, .bool a0_2] 31 (0, 0)) (by (with_reducible repeat (first | refine blk_drewN ?_ _ | refine blk_drew ?_ | refine blk_alloc ?_ _)); exact BK137.out)) : gb138 ≠ gb137)); clear BK137; clear HB; have BK137 := n0_; have HB := n1_; have BK138 := n2_; have GW138 := n3_; have GE138 := n4_; have NB137_138 := n5_; have NB138_137 := n6_; clear n0_ n1_ n2_ n3_ n4_ n5_ n6_; clear hb hbox hg; have hnb9 := NB137_138.out; have hnc9 := NB138_137.out; have hcz10_0 : w8.cell? ⟨gb137, 0, none⟩ = some (.string a0_0) := (blk_cell BK137.out 0).trans rfl; have hcz10_1 : w8.cell? ⟨gb137, 1, none⟩ = some (.string a0_1) := (blk_cell BK137.out 1).trans rfl; have hcz10_2 : w8.cell? ⟨gb137, 2, none⟩ = some (.bool a0_2) := (blk_cell BK137.out 2).trans rfl; have hfz10_0 := blk_frozen BK137.out 0; have hfz10_1 := blk_frozen BK137.out 1; have hfz10_2 := blk_frozen BK137.out 2) | (go_at_call 25; (with_reducible refine (spec_allDigits.calls k a0_1 t139 _ A3.out).mono ?_); rintro e w' ⟨rfl, ⟨nd, rfl⟩⟩; (try first | exact ⟨rfl, _, World.drewN_drewN _ _ _⟩ | exact ⟨rfl, _, Eq.trans (World.drewN_drewN _ _ _) (congrArg (World.drewN _) (Nat.add_assoc _ _ _))⟩); have hcz11_0 : w8.cell? ⟨gb138, 0, none⟩ = some (.string a1_0) := (blk_cell BK138.out 0).trans rfl; have hcz11_1 : w8.cell? ⟨gb138, 1, none⟩ = some (.string a1_1) := (blk_cell BK138.out 1).trans rfl; have hcz11_2 : w8.cell? ⟨gb138, 2, none⟩ = some (.bool a1_2) := (blk_cell BK138.out 2).trans rfl; have hfz11_0 := blk_frozen BK138.out 0; have hfz11_1 := blk_frozen BK138.out 1; have hfz11_2 := blk_frozen BK138.out 2) | (go_at_call 25; (with_reducible refine (spec_allDigits.calls k a1_1 t140 _ A4.out).mono ?_); rintro e w' ⟨rfl, ⟨nd, rfl⟩⟩; (try first | exact ⟨rfl, _, World.drewN_drewN _ _ _⟩ | exact ⟨rfl, _, Eq.trans (World.drewN_drewN _ _ _) (congrArg (World.drewN _) (Nat.add_assoc _ _ _))⟩)))
    repeat (go_quiet (first | ((with_reducible refine gate_dst (N := 2) rfl ?_); refine box_event ?hg (N := 2) ?hd (cs := #[.string a0_0, .string a0_1, .bool a0_2]) (t := 31) ?hr ?_; (case hd => rfl); (case hg => rfl); (case hr => first | (go_simp; done) | (go_simp; rfl)); intro gb137 hg w7 hbox hb; have n0_ := Aside0.mk (below_step (by repeat (first | (with_reducible first | exact HB.out | apply below_alloc | apply pw_below_drewN | apply below_drew1) | exact HB.out)) hb); have n1_ := Aside0.mk (hbox); have n2_ := Aside0.mk ((by rw [hg]; exact (below_size (by repeat (first | (with_reducible first | exact HB.out | apply below_alloc | apply pw_below_drewN | apply below_drew1) | exact HB.out))) : w.heap.size ≤ gb137)); have n3_ := Aside0.mk ((by rw [hg]; exact (below_size (by repeat (first | (with_reducible first | exact HB.out | apply below_alloc | apply pw_below_drewN | apply below_drew1) | exact HB.out))) : w.heap.size ≤ gb137)); clear HB; have HB := n0_; have BK137 := n1_; have GW137 := n2_; have GE137 := n3_; clear n0_ n1_ n2_ n3_; clear hb hbox hg) | ((with_reducible refine gate_dst (N := 3) rfl ?_); refine box_event ?hg (N := 3) ?hd (cs := #[.string a1_0, .string a1_1, .bool a1_2]) (t := 31) ?hr ?_; (case hd => rfl); (case hg => rfl); (case hr => first | (go_simp; done) | (go_simp; rfl)); intro gb138 hg w8 hbox hb; have n0_ := Aside0.mk (blk_below (g := gb137) (o := .cells #[.string a0_0, .string a0_1, .bool a0_2] 31 (0, 0)) (by (with_reducible repeat (first | refine blk_drewN ?_ _ | refine blk_drew ?_ | refine blk_alloc ?_ _)); exact BK137.out) hb); have n1_ := Aside0.mk (below_step (by repeat (first | (with_reducible first | exact HB.out | apply below_alloc | apply pw_below_drewN | apply below_drew1 | refine below_set ?_ GE137.out) | exact HB.out)) hb); have n2_ := Aside0.mk (hbox); have n3_ := Aside0.mk ((by rw [hg]; exact (below_size (by repeat (first | (with_reducible first | exact HB.out | apply below_alloc | apply pw_below_drewN | apply below_drew1 | refine below_set ?_ GE137.out) | exact HB.out))) : w.heap.size ≤ gb138)); have n4_ := Aside0.mk ((by rw [hg]; exact (below_size (by repeat (first | (with_reducible first | exact HB.out | apply below_alloc | apply pw_below_drewN | apply below_drew1 | refine below_set ?_ GE137.out) | exact HB.out))) : w.heap.size ≤ gb138)); have n5_ := Aside0.mk ((by rw [hg]; exact Nat.ne_of_lt (blk_lt (g := gb137) (o := .cells #[.string a0_0, .string a0_1, .bool a0_2] 31 (0, 0)) (by (with_reducible repeat (first | refine blk_drewN ?_ _ | refine blk_drew ?_ | refine blk_alloc ?_ _)); exact BK137.out)) : gb137 ≠ gb138)); have n6_ := Aside0.mk ((by rw [hg]; exact Nat.ne_of_gt (blk_lt (g := gb137) (o := .cells #[.string a0_0, .string a0_1, .bool a0_2] 31 (0, 0)) (by (with_reducible repeat (first | refine blk_drewN ?_ _ | refine blk_drew ?_ | refine blk_alloc ?_ _)); exact BK137.out)) : gb138 ≠ gb137)); clear BK137; clear HB; have BK137 := n0_; have HB := n1_; have BK138 := n2_; have GW138 := n3_; have GE138 := n4_; have NB137_138 := n5_; have NB138_137 := n6_; clear n0_ n1_ n2_ n3_ n4_ n5_ n6_; clear hb hbox hg; have hnb9 := NB137_138.out; have hnc9 := NB138_137.out; have hcz10_0 : w8.cell? ⟨gb137, 0, none⟩ = some (.string a0_0) := (blk_cell BK137.out 0).trans rfl; have hcz10_1 : w8.cell? ⟨gb137, 1, none⟩ = some (.string a0_1) := (blk_cell BK137.out 1).trans rfl; have hcz10_2 : w8.cell? ⟨gb137, 2, none⟩ = some (.bool a0_2) := (blk_cell BK137.out 2).trans rfl; have hfz10_0 := blk_frozen BK137.out 0; have hfz10_1 := blk_frozen BK137.out 1; have hfz10_2 := blk_frozen BK137.out 2) | (go_at_call 25; (with_reducible refine (spec_allDigits.calls k a0_1 t139 _ A3.out).mono ?_); rintro e w' ⟨rfl, ⟨nd, rfl⟩⟩; (try first | exact ⟨rfl, _, World.drewN_drewN _ _ _⟩ | exact ⟨rfl, _, Eq.trans (World.drewN_drewN _ _ _) (congrArg (World.drewN _) (Nat.add_assoc _ _ _))⟩); have hcz11_0 : w8.cell? ⟨gb138, 0, none⟩ = some (.string a1_0) := (blk_cell BK138.out 0).trans rfl; have hcz11_1 : w8.cell? ⟨gb138, 1, none⟩ = some (.string a1_1) := (blk_cell BK138.out 1).trans rfl; have hcz11_2 : w8.cell? ⟨gb138, 2, none⟩ = some (.bool a1_2) := (blk_cell BK138.out 2).trans rfl; have hfz11_0 := blk_frozen BK138.out 0; have hfz11_1 := blk_frozen BK138.out 1; have hfz11_2 := blk_frozen BK138.out 2) | (go_at_call 25; (with_reducible refine (spec_allDigits.calls k a1_1 t140 _ A4.out).mono ?_); rintro e w' ⟨rfl, ⟨nd, rfl⟩⟩; (try first | exact ⟨rfl, _, World.drewN_drewN _ _ _⟩ | exact ⟨rfl, _, Eq.trans (World.drewN_drewN _ _ _) (congrArg (World.drewN _) (Nat.add_assoc _ _ _))⟩))); go_upto_region 6 with (first | ((with_reducible refine gate_dst (N := 2) rfl ?_); refine box_event ?hg (N := 2) ?hd (cs := #[.string a0_0, .string a0_1, .bool a0_2]) (t := 31) ?hr ?_; (case hd => rfl); (case hg => rfl); (case hr => first | (go_simp; done) | (go_simp; rfl)); intro gb137 hg w7 hbox hb; have n0_ := Aside0.mk (below_step (by repeat (first | (with_reducible first | exact HB.out | apply below_alloc | apply pw_below_drewN | apply below_drew1) | exact HB.out)) hb); have n1_ := Aside0.mk (hbox); have n2_ := Aside0.mk ((by rw [hg]; exact (below_size (by repeat (first | (with_reducible first | exact HB.out | apply below_alloc | apply pw_below_drewN | apply below_drew1) | exact HB.out))) : w.heap.size ≤ gb137)); have n3_ := Aside0.mk ((by rw [hg]; exact (below_size (by repeat (first | (with_reducible first | exact HB.out | apply below_alloc | apply pw_below_drewN | apply below_drew1) | exact HB.out))) : w.heap.size ≤ gb137)); clear HB; have HB := n0_; have BK137 := n1_; have GW137 := n2_; have GE137 := n3_; clear n0_ n1_ n2_ n3_; clear hb hbox hg) | ((with_reducible refine gate_dst (N := 3) rfl ?_); refine box_event ?hg (N := 3) ?hd (cs := #[.string a1_0, .string a1_1, .bool a1_2]) (t := 31) ?hr ?_; (case hd => rfl); (case hg => rfl); (case hr => first | (go_simp; done) | (go_simp; rfl)); intro gb138 hg w8 hbox hb; have n0_ := Aside0.mk (blk_below (g := gb137) (o := .cells #[.string a0_0, .string a0_1, .bool a0_2] 31 (0, 0)) (by (with_reducible repeat (first | refine blk_drewN ?_ _ | refine blk_drew ?_ | refine blk_alloc ?_ _)); exact BK137.out) hb); have n1_ := Aside0.mk (below_step (by repeat (first | (with_reducible first | exact HB.out | apply below_alloc | apply pw_below_drewN | apply below_drew1 | refine below_set ?_ GE137.out) | exact HB.out)) hb); have n2_ := Aside0.mk (hbox); have n3_ := Aside0.mk ((by rw [hg]; exact (below_size (by repeat (first | (with_reducible first | exact HB.out | apply below_alloc | apply pw_below_drewN | apply below_drew1 | refine below_set ?_ GE137.out) | exact HB.out))) : w.heap.size ≤ gb138)); have n4_ := Aside0.mk ((by rw [hg]; exact (below_size (by repeat (first | (with_reducible first | exact HB.out | apply below_alloc | apply pw_below_drewN | apply below_drew1 | refine below_set ?_ GE137.out) | exact HB.out))) : w.heap.size ≤ gb138)); have n5_ := Aside0.mk ((by rw [hg]; exact Nat.ne_of_lt (blk_lt (g := gb137) (o := .cells #[.string a0_0, .string a0_1, .bool a0_2] 31 (0, 0)) (by (with_reducible repeat (first | refine blk_drewN ?_ _ | refine blk_drew ?_ | refine blk_alloc ?_ _)); exact BK137.out)) : gb137 ≠ gb138)); have n6_ := Aside0.mk ((by rw [hg]; exact Nat.ne_of_gt (blk_lt (g := gb137) (o := .cells #[.string a0_0, .string a0_1, .bool a0_2] 31 (0, 0)) (by (with_reducible repeat (first | refine blk_drewN ?_ _ | refine blk_drew ?_ | refine blk_alloc ?_ _)); exact BK137.out)) : gb138 ≠ gb137)); clear BK137; clear HB; have BK137 := n0_; have HB := n1_; have BK138 := n2_; have GW138 := n3_; have GE138 := n4_; have NB137_138 := n5_; have NB138_137 := n6_; clear n0_ n1_ n2_ n3_ n4_ n5_ n6_; clear hb hbox hg; have hnb9 := NB137_138.out; have hnc9 := NB138_137.out; have hcz10_0 : w8.cell? ⟨gb137, 0, none⟩ = some (.string a0_0) := (blk_cell BK137.out 0).trans rfl; have hcz10_1 : w8.cell? ⟨gb137, 1, none⟩ = some (.string a0_1) := (blk_cell BK137.out 1).trans rfl; have hcz10_2 : w8.cell? ⟨gb137, 2, none⟩ = some (.bool a0_2) := (blk_cell BK137.out 2).trans rfl; have hfz10_0 := blk_frozen BK137.out 0; have hfz10_1 := blk_frozen BK137.out 1; have hfz10_2 := blk_frozen BK137.out 2) | (go_at_call 25; (with_reducible refine (spec_allDigits.calls k a0_1 t139 _ A3.out).mono ?_); rintro e w' ⟨rfl, ⟨nd, rfl⟩⟩; (try first | exact ⟨rfl, _, World.drewN_drewN _ _ _⟩ | exact ⟨rfl, _, Eq.trans (World.drewN_drewN _ _ _) (congrArg (World.drewN _) (Nat.add_assoc _ _ _))⟩); have hcz11_0 : w8.cell? ⟨gb138, 0, none⟩ = some (.string a1_0) := (blk_cell BK138.out 0).trans rfl; have hcz11_1 : w8.cell? ⟨gb138, 1, none⟩ = some (.string a1_1) := (blk_cell BK138.out 1).trans rfl; have hcz11_2 : w8.cell? ⟨gb138, 2, none⟩ = some (.bool a1_2) := (blk_cell BK138.out 2).trans rfl; have hfz11_0 := blk_frozen BK138.out 0; have hfz11_1 := blk_frozen BK138.out 1; have hfz11_2 := blk_frozen BK138.out 2) | (go_at_call 25; (with_reducible refine (spec_allDigits.calls k a1_1 t140 _ A4.out).mono ?_); rintro e w' ⟨rfl, ⟨nd, rfl⟩⟩; (try first | exact ⟨rfl, _, World.drewN_drewN _ _ _⟩ | exact ⟨rfl, _, Eq.trans (World.drewN_drewN _ _ _) (congrArg (World.drewN _) (Nat.add_assoc _ _ _))⟩))))
    (try simp only [Act.put, List.setIfInBounds_toArray, List.set_cons_zero, List.set_cons_succ])
    go_cut [40] (fun v40 wc => ∃ (kq : Nat) (x40_5 : Bool), v40 = .bool x40_5 ∧ Aside0 (spec_mavenOne.j0 kq t139 t140 x40_5 a0_0 a0_1 a0_2 a1_0 a1_1 a1_2 = some (r1, r2)) ∧ Aside0 (kq ≤ k) ∧ Aside0 (wc.heap[gb137]? = some (.cells #[.string a0_0, .string a0_1, .bool a0_2] 31 (0, 0))) ∧ Aside0 (wc.heap[gb138]? = some (.cells #[.string a1_0, .string a1_1, .bool a1_2] 31 (0, 0))) ∧ Aside0 (Below w.heap.size w wc))
    case first =>
      have H := HC6.out
      clear HC6
      by_cases c12 : t139 = true
      · subst c12
        have H1 : (spec_mavenOne.j0 k true t140 t140 a0_0 a0_1 a0_2 a1_0 a1_1 a1_2) = some (r1, r2) := by rw [if_pos rfl] at H; exact H
        clear H
        have H := H1
        clear H1
        have H' := Aside0.mk H
        clear H
        go_wp2
        repeat (go_quiet (fail); try go_wp2)
        go_meet
        case rel => exact ⟨_, (t140), (by first | rfl | (simp; done) | (simp [*]; done) | (simp [bne_nil_]; done)), H', ⟨by first | omega | exact Nat.le_refl _⟩, ⟨by (with_reducible repeat (first | refine blk_drewN ?_ _ | refine blk_drew ?_ | refine blk_alloc ?_ _)); exact BK137.out⟩, ⟨by (with_reducible repeat (first | refine blk_drewN ?_ _ | refine blk_drew ?_ | refine blk_alloc ?_ _)); exact BK138.out⟩, ⟨by repeat (first | (with_reducible first | exact HB.out | apply below_alloc | apply pw_below_drewN | apply below_drew1 | refine below_set ?_ GE137.out | refine below_set ?_ GE138.out) | exact HB.out)⟩⟩
      · replace c12 := Bool.eq_false_iff.mpr c12
        subst c12
        have H1 : (spec_mavenOne.j0 k false t140 false a0_0 a0_1 a0_2 a1_0 a1_1 a1_2) = some (r1, r2) := by rw [if_neg (show ¬ (false = true) by decide)] at H; exact H
        clear H
        have H := H1
        clear H1
        have H' := Aside0.mk H
        clear H
        go_wp2
        repeat (go_quiet (fail); try go_wp2)
        go_meet
        case rel => exact ⟨_, (false), (by first | rfl | (simp; done) | (simp [*]; done) | (simp [bne_nil_]; done)), H', ⟨by first | omega | exact Nat.le_refl _⟩, ⟨by (with_reducible repeat (first | refine blk_drewN ?_ _ | refine blk_drew ?_ | refine blk_alloc ?_ _)); exact BK137.out⟩, ⟨by (with_reducible repeat (first | refine blk_drewN ?_ _ | refine blk_drew ?_ | refine blk_alloc ?_ _)); exact BK138.out⟩, ⟨by repeat (first | (with_reducible first | exact HB.out | apply below_alloc | apply pw_below_drewN | apply below_drew1 | refine below_set ?_ GE137.out | refine below_set ?_ GE138.out) | exact HB.out)⟩⟩
    case rest =>
      clear HC6
      try clear c1
      try clear c2
      try clear p2
      try clear c5
      try clear c5b0
      try clear c5b1
      try clear c9
      try clear c12
      try clear hcz10_0
      try clear hcz10_1
      try clear hcz10_2
      try clear hcz11_0
      try clear hcz11_1
      try clear hcz11_2
      try clear hfz10_0
      try clear hfz10_1
      try clear hfz10_2
      try clear hfz11_0
      try clear hfz11_1
      try clear hfz11_2
      obtain ⟨kq, x40_5, rfl, HA, HJ5, BK137, BK138, HB⟩ := hcut
      cases kq with
      | zero => exact absurd HA.out (by simp [spec_mavenOne.j0])
      | succ kj5 =>
        have H := HA.out
        clear HA
        simp only [spec_mavenOne.j0] at H
        by_cases c13 : x40_5 = true
        · subst c13
          have H1 : ((spec_orderNumbers.f kj5 a0_1 a1_1).bind fun t146 => (some (t146, true))) = some (r1, r2) := by rw [if_pos rfl] at H; exact H
          clear H
          have H := H1
          clear H1
          replace H := Option.bind_eq_some_iff.mp H
          obtain ⟨t146, A140, H⟩ := H
          replace H : (some (t146, true)) = some (r1, r2) := H
          have A14 := Aside0.mk A140
          clear A140
          simp only [Option.some.injEq, Prod.mk.injEq] at H
          obtain ⟨rfl, rfl⟩ := H
          have hnb15 := NB137_138.out
          have hnc15 := NB138_137.out
          have hcz16_0 : wc.cell? ⟨gb137, 0, none⟩ = some (.string a0_0) := (blk_cell BK137.out 0).trans rfl
          have hcz16_1 : wc.cell? ⟨gb137, 1, none⟩ = some (.string a0_1) := (blk_cell BK137.out 1).trans rfl
          have hcz16_2 : wc.cell? ⟨gb137, 2, none⟩ = some (.bool a0_2) := (blk_cell BK137.out 2).trans rfl
          have hfz16_0 := blk_frozen BK137.out 0
          have hfz16_1 := blk_frozen BK137.out 1
          have hfz16_2 := blk_frozen BK137.out 2
          have hcz17_0 : wc.cell? ⟨gb138, 0, none⟩ = some (.string a1_0) := (blk_cell BK138.out 0).trans rfl
          have hcz17_1 : wc.cell? ⟨gb138, 1, none⟩ = some (.string a1_1) := (blk_cell BK138.out 1).trans rfl
          have hcz17_2 : wc.cell? ⟨gb138, 2, none⟩ = some (.bool a1_2) := (blk_cell BK138.out 2).trans rfl
          have hfz17_0 := blk_frozen BK138.out 0
          have hfz17_1 := blk_frozen BK138.out 1
          have hfz17_2 := blk_frozen BK138.out 2
          go_wp2_with (first | (go_at_call 28; (with_reducible refine (spec_orderNumbers.calls kj5 a0_1 a1_1 t146 _ A14.out).mono ?_); rintro e w' ⟨rfl, ⟨nd, rfl⟩⟩; (try first | exact ⟨rfl, _, World.drewN_drewN _ _ _⟩ | exact ⟨rfl, _, Eq.trans (World.drewN_drewN _ _ _) (congrArg (World.drewN _) (Nat.add_assoc _ _ _))⟩)))
          repeat (go_quiet (first | (go_at_call 28; (with_reducible refine (spec_orderNumbers.calls kj5 a0_1 a1_1 t146 _ A14.out).mono ?_); rintro e w' ⟨rfl, ⟨nd, rfl⟩⟩; (try first | exact ⟨rfl, _, World.drewN_drewN _ _ _⟩ | exact ⟨rfl, _, Eq.trans (World.drewN_drewN _ _ _) (congrArg (World.drewN _) (Nat.add_assoc _ _ _))⟩))); try go_wp2_with (first | (go_at_call 28; (with_reducible refine (spec_orderNumbers.calls kj5 a0_1 a1_1 t146 _ A14.out).mono ?_); rintro e w' ⟨rfl, ⟨nd, rfl⟩⟩; (try first | exact ⟨rfl, _, World.drewN_drewN _ _ _⟩ | exact ⟨rfl, _, Eq.trans (World.drewN_drewN _ _ _) (congrArg (World.drewN _) (Nat.add_assoc _ _ _))⟩))))
          go_ret2
          exact ⟨by first | rfl | (simp [errW_none, errW_some] <;> rfl) | (simp [*, errW_none, errW_some] <;> rfl) | (simp [bne_nil_]; done), by repeat (first | (with_reducible first | exact HB.out | apply below_alloc | apply pw_below_drewN | apply below_drew1 | refine below_set ?_ GE137.out | refine below_set ?_ GE138.out) | exact HB.out)⟩
        · replace c13 := Bool.eq_false_iff.mpr c13
          subst c13
          have H1 : (if t139 = true then (spec_mavenOne.j1 kj5 t139 t140 false a0_0 a0_1 a0_2 a1_0 a1_1 a1_2) else (spec_mavenOne.j1 kj5 t139 t140 (!t140) a0_0 a0_1 a0_2 a1_0 a1_1 a1_2)) = some (r1, r2) := by rw [if_neg (show ¬ (false = true) by decide)] at H; exact H
          clear H
          have H := H1
          clear H1
          have HC18 := Aside0.mk H
          clear H
          go_upto_region 8 with (fail)
          repeat (go_quiet (fail); go_upto_region 8 with (fail))
          go_cut [50] (fun v50 wc => ∃ (kq : Nat) (x50_17 : Bool), v50 = .bool x50_17 ∧ Aside0 (spec_mavenOne.j1 kq t139 t140 x50_17 a0_0 a0_1 a0_2 a1_0 a1_1 a1_2 = some (r1, r2)) ∧ Aside0 (kq ≤ kj5) ∧ Aside0 (wc.heap[gb137]? = some (.cells #[.string a0_0, .string a0_1, .bool a0_2] 31 (0, 0))) ∧ Aside0 (wc.heap[gb138]? = some (.cells #[.string a1_0, .string a1_1, .bool a1_2] 31 (0, 0))) ∧ Aside0 (Below w.heap.size w wc))
          case first =>
            have H := HC18.out
            clear HC18
            by_cases c19 : t139 = true
            · subst c19
              have H1 : (spec_mavenOne.j1 kj5 true t140 false a0_0 a0_1 a0_2 a1_0 a1_1 a1_2) = some (r1, r2) := by rw [if_pos rfl] at H; exact H
              clear H
              have H := H1
              clear H1
              have H' := Aside0.mk H
              clear H
              go_wp2
              repeat (go_quiet (fail); try go_wp2)
              go_meet
              case rel => exact ⟨_, (false), (by first | rfl | (simp; done) | (simp [*]; done) | (simp [bne_nil_]; done)), H', ⟨by have := HJ5.out; first | omega | exact Nat.le_refl _⟩, ⟨by (with_reducible repeat (first | refine blk_drewN ?_ _ | refine blk_drew ?_ | refine blk_alloc ?_ _)); exact BK137.out⟩, ⟨by (with_reducible repeat (first | refine blk_drewN ?_ _ | refine blk_drew ?_ | refine blk_alloc ?_ _)); exact BK138.out⟩, ⟨by repeat (first | (with_reducible first | exact HB.out | apply below_alloc | apply pw_below_drewN | apply below_drew1 | refine below_set ?_ GE137.out | refine below_set ?_ GE138.out) | exact HB.out)⟩⟩
            · replace c19 := Bool.eq_false_iff.mpr c19
              subst c19
              have H1 : (spec_mavenOne.j1 kj5 false t140 (!t140) a0_0 a0_1 a0_2 a1_0 a1_1 a1_2) = some (r1, r2) := by rw [if_neg (show ¬ (false = true) by decide)] at H; exact H
              clear H
              have H := H1
              clear H1
              have H' := Aside0.mk H
              clear H
              go_wp2
              repeat (go_quiet (fail); try go_wp2)
              go_meet
              case rel => exact ⟨_, (!t140), (by first | rfl | (simp; done) | (simp [*]; done) | (simp [bne_nil_]; done)), H', ⟨by have := HJ5.out; first | omega | exact Nat.le_refl _⟩, ⟨by (with_reducible repeat (first | refine blk_drewN ?_ _ | refine blk_drew ?_ | refine blk_alloc ?_ _)); exact BK137.out⟩, ⟨by (with_reducible repeat (first | refine blk_drewN ?_ _ | refine blk_drew ?_ | refine blk_alloc ?_ _)); exact BK138.out⟩, ⟨by repeat (first | (with_reducible first | exact HB.out | apply below_alloc | apply pw_below_drewN | apply below_drew1 | refine below_set ?_ GE137.out | refine below_set ?_ GE138.out) | exact HB.out)⟩⟩
          case rest =>
            clear HC18
            try clear c1
            try clear c2
            try clear p2
            try clear c5
            try clear c5b0
            try clear c5b1
            try clear c9
            try clear c12
            try clear c13
            try clear c15
            try clear c19
            try clear hcz10_0
            try clear hcz10_1
            try clear hcz10_2
            try clear hcz11_0
            try clear hcz11_1
            try clear hcz11_2
            try clear hcz16_0
            try clear hcz16_1
            try clear hcz16_2
            try clear hcz17_0
            try clear hcz17_1
            try clear hcz17_2
            try clear hfz10_0
            try clear hfz10_1
            try clear hfz10_2
            try clear hfz11_0
            try clear hfz11_1
            try clear hfz11_2
            try clear hfz16_0
            try clear hfz16_1
            try clear hfz16_2
            try clear hfz17_0
            try clear hfz17_1
            try clear hfz17_2
            try clear p2
            obtain ⟨kq, x50_17, rfl, HA, HJ17, BK137, BK138, HB⟩ := hcut
            cases kq with
            | zero => exact absurd HA.out (by simp [spec_mavenOne.j1])
            | succ kj17 =>
              have H := HA.out
              clear HA
              simp only [spec_mavenOne.j1] at H
              by_cases c20 : x50_17 = true
              · subst c20
                have H1 : ((spec_mavenQualifiers.f kj17 a0_1 a1_1).bind fun t147 => (some (t147, true))) = some (r1, r2) := by rw [if_pos rfl] at H; exact H
                clear H
                have H := H1
                clear H1
                replace H := Option.bind_eq_some_iff.mp H
                obtain ⟨t147, A210, H⟩ := H
                replace H : (some (t147, true)) = some (r1, r2) := H
                have A21 := Aside0.mk A210
                clear A210
                simp only [Option.some.injEq, Prod.mk.injEq] at H
                obtain ⟨rfl, rfl⟩ := H
                have hnb22 := NB137_138.out
                have hnc22 := NB138_137.out
                have hcz23_0 : wc.cell? ⟨gb137, 0, none⟩ = some (.string a0_0) := (blk_cell BK137.out 0).trans rfl
                have hcz23_1 : wc.cell? ⟨gb137, 1, none⟩ = some (.string a0_1) := (blk_cell BK137.out 1).trans rfl
                have hcz23_2 : wc.cell? ⟨gb137, 2, none⟩ = some (.bool a0_2) := (blk_cell BK137.out 2).trans rfl
                have hfz23_0 := blk_frozen BK137.out 0
                have hfz23_1 := blk_frozen BK137.out 1
                have hfz23_2 := blk_frozen BK137.out 2
                have hcz24_0 : wc.cell? ⟨gb138, 0, none⟩ = some (.string a1_0) := (blk_cell BK138.out 0).trans rfl
                have hcz24_1 : wc.cell? ⟨gb138, 1, none⟩ = some (.string a1_1) := (blk_cell BK138.out 1).trans rfl
                have hcz24_2 : wc.cell? ⟨gb138, 2, none⟩ = some (.bool a1_2) := (blk_cell BK138.out 2).trans rfl
                have hfz24_0 := blk_frozen BK138.out 0
                have hfz24_1 := blk_frozen BK138.out 1
                have hfz24_2 := blk_frozen BK138.out 2
                go_wp2_with (first | (go_at_call 29; (with_reducible refine (spec_mavenQualifiers.calls kj17 a0_1 a1_1 t147 _ A21.out).mono ?_); rintro e w25 ⟨rfl, hb⟩; have n0_ := Aside0.mk (blk_below (g := gb137) (o := .cells #[.string a0_0, .string a0_1, .bool a0_2] 31 (0, 0)) (by (with_reducible repeat (first | refine blk_drewN ?_ _ | refine blk_drew ?_ | refine blk_alloc ?_ _)); exact BK137.out) hb); have n1_ := Aside0.mk (blk_below (g := gb138) (o := .cells #[.string a1_0, .string a1_1, .bool a1_2] 31 (0, 0)) (by (with_reducible repeat (first | refine blk_drewN ?_ _ | refine blk_drew ?_ | refine blk_alloc ?_ _)); exact BK138.out) hb); have n2_ := Aside0.mk (below_step (by repeat (first | (with_reducible first | exact HB.out | apply below_alloc | apply pw_below_drewN | apply below_drew1 | refine below_set ?_ GE137.out | refine below_set ?_ GE138.out) | exact HB.out)) hb); clear BK137; clear BK138; clear HB; have BK137 := n0_; have BK138 := n1_; have HB := n2_; clear n0_ n1_ n2_; (try clear hb); (try clear hb2); (try clear hk); (try clear hi)))
                repeat (go_quiet (first | (go_at_call 29; (with_reducible refine (spec_mavenQualifiers.calls kj17 a0_1 a1_1 t147 _ A21.out).mono ?_); rintro e w25 ⟨rfl, hb⟩; have n0_ := Aside0.mk (blk_below (g := gb137) (o := .cells #[.string a0_0, .string a0_1, .bool a0_2] 31 (0, 0)) (by (with_reducible repeat (first | refine blk_drewN ?_ _ | refine blk_drew ?_ | refine blk_alloc ?_ _)); exact BK137.out) hb); have n1_ := Aside0.mk (blk_below (g := gb138) (o := .cells #[.string a1_0, .string a1_1, .bool a1_2] 31 (0, 0)) (by (with_reducible repeat (first | refine blk_drewN ?_ _ | refine blk_drew ?_ | refine blk_alloc ?_ _)); exact BK138.out) hb); have n2_ := Aside0.mk (below_step (by repeat (first | (with_reducible first | exact HB.out | apply below_alloc | apply pw_below_drewN | apply below_drew1 | refine below_set ?_ GE137.out | refine below_set ?_ GE138.out) | exact HB.out)) hb); clear BK137; clear BK138; clear HB; have BK137 := n0_; have BK138 := n1_; have HB := n2_; clear n0_ n1_ n2_; (try clear hb); (try clear hb2); (try clear hk); (try clear hi))); try go_wp2_with (first | (go_at_call 29; (with_reducible refine (spec_mavenQualifiers.calls kj17 a0_1 a1_1 t147 _ A21.out).mono ?_); rintro e w25 ⟨rfl, hb⟩; have n0_ := Aside0.mk (blk_below (g := gb137) (o := .cells #[.string a0_0, .string a0_1, .bool a0_2] 31 (0, 0)) (by (with_reducible repeat (first | refine blk_drewN ?_ _ | refine blk_drew ?_ | refine blk_alloc ?_ _)); exact BK137.out) hb); have n1_ := Aside0.mk (blk_below (g := gb138) (o := .cells #[.string a1_0, .string a1_1, .bool a1_2] 31 (0, 0)) (by (with_reducible repeat (first | refine blk_drewN ?_ _ | refine blk_drew ?_ | refine blk_alloc ?_ _)); exact BK138.out) hb); have n2_ := Aside0.mk (below_step (by repeat (first | (with_reducible first | exact HB.out | apply below_alloc | apply pw_below_drewN | apply below_drew1 | refine below_set ?_ GE137.out | refine below_set ?_ GE138.out) | exact HB.out)) hb); clear BK137; clear BK138; clear HB; have BK137 := n0_; have BK138 := n1_; have HB := n2_; clear n0_ n1_ n2_; (try clear hb); (try clear hb2); (try clear hk); (try clear hi))))
                go_ret2
                exact ⟨by first | rfl | (simp [errW_none, errW_some] <;> rfl) | (simp [*, errW_none, errW_some] <;> rfl) | (simp [bne_nil_]; done), by repeat (first | (with_reducible first | exact HB.out | apply below_alloc | apply pw_below_drewN | apply below_drew1 | refine below_set ?_ GE137.out | refine below_set ?_ GE138.out) | exact HB.out)⟩
              · replace c20 := Bool.eq_false_iff.mpr c20
                subst c20
                have H1 : (if t139 = true then (if a0_2 = true then ((spec_Keyword.f kj17 a1_1).bind fun t148 => ((spec_Keyword.f kj17 (⟨#[115, 112]⟩ : ByteArray)).bind fun t149 => (spec_mavenOne.j2 kj17 t139 t140 (decide (t148 > t149)) a0_0 a0_1 a0_2 a1_0 a1_1 a1_2))) else (spec_mavenOne.j2 kj17 t139 t140 false a0_0 a0_1 a0_2 a1_0 a1_1 a1_2)) else (spec_mavenOne.j2 kj17 t139 t140 false a0_0 a0_1 a0_2 a1_0 a1_1 a1_2)) = some (r1, r2) := by rw [if_neg (show ¬ (false = true) by decide)] at H; exact H
                clear H
                have H := H1
                clear H1
                have HC26 := Aside0.mk H
                clear H
                go_upto_region 10 with (fail)
                repeat (go_quiet (fail); go_upto_region 10 with (fail))
                go_cut [62] (fun v62 wc => ∃ (kq : Nat) (x62_25 : Bool), v62 = .bool x62_25 ∧ Aside0 (spec_mavenOne.j2 kq t139 t140 x62_25 a0_0 a0_1 a0_2 a1_0 a1_1 a1_2 = some (r1, r2)) ∧ Aside0 (kq ≤ kj17) ∧ Aside0 (wc.heap[gb137]? = some (.cells #[.string a0_0, .string a0_1, .bool a0_2] 31 (0, 0))) ∧ Aside0 (wc.heap[gb138]? = some (.cells #[.string a1_0, .string a1_1, .bool a1_2] 31 (0, 0))) ∧ Aside0 (Below w.heap.size w wc))
                case first =>
                  have H := HC26.out
                  clear HC26
                  by_cases c27 : t139 = true
                  · subst c27
                    have H1 : (if a0_2 = true then ((spec_Keyword.f kj17 a1_1).bind fun t148 => ((spec_Keyword.f kj17 (⟨#[115, 112]⟩ : ByteArray)).bind fun t149 => (spec_mavenOne.j2 kj17 true t140 (decide (t148 > t149)) a0_0 a0_1 a0_2 a1_0 a1_1 a1_2))) else (spec_mavenOne.j2 kj17 true t140 false a0_0 a0_1 a0_2 a1_0 a1_1 a1_2)) = some (r1, r2) := by rw [if_pos rfl] at H; exact H
                    clear H
                    have H := H1
                    clear H1
                    by_cases c28 : a0_2 = true
                    · subst c28
                      have H1 : ((spec_Keyword.f kj17 a1_1).bind fun t148 => ((spec_Keyword.f kj17 (⟨#[115, 112]⟩ : ByteArray)).bind fun t149 => (spec_mavenOne.j2 kj17 true t140 (decide (t148 > t149)) a0_0 a0_1 true a1_0 a1_1 a1_2))) = some (r1, r2) := by rw [if_pos rfl] at H; exact H
                      clear H
                      have H := H1
                      clear H1
                      replace H := Option.bind_eq_some_iff.mp H
                      obtain ⟨t148, A290, H⟩ := H
                      replace H : ((spec_Keyword.f kj17 (⟨#[115, 112]⟩ : ByteArray)).bind fun t149 => (spec_mavenOne.j2 kj17 true t140 (decide (t148 > t149)) a0_0 a0_1 true a1_0 a1_1 a1_2)) = some (r1, r2) := H
                      have A29 := Aside0.mk A290
                      clear A290
                      replace H := Option.bind_eq_some_iff.mp H
                      obtain ⟨t149, A300, H⟩ := H
                      replace H : (spec_mavenOne.j2 kj17 true t140 (decide (t148 > t149)) a0_0 a0_1 true a1_0 a1_1 a1_2) = some (r1, r2) := H
                      have A30 := Aside0.mk A300
                      clear A300
                      have H' := Aside0.mk H
                      clear H
                      have hnb31 := NB137_138.out
                      have hnc31 := NB138_137.out
                      have hcz32_0 : wc.cell? ⟨gb137, 0, none⟩ = some (.string a0_0) := (blk_cell BK137.out 0).trans rfl
                      have hcz32_1 : wc.cell? ⟨gb137, 1, none⟩ = some (.string a0_1) := (blk_cell BK137.out 1).trans rfl
                      have hcz32_2 : wc.cell? ⟨gb137, 2, none⟩ = some (.bool true) := (blk_cell BK137.out 2).trans rfl
                      have hfz32_0 := blk_frozen BK137.out 0
                      have hfz32_1 := blk_frozen BK137.out 1
                      have hfz32_2 := blk_frozen BK137.out 2
                      have hcz33_0 : wc.cell? ⟨gb138, 0, none⟩ = some (.string a1_0) := (blk_cell BK138.out 0).trans rfl
                      have hcz33_1 : wc.cell? ⟨gb138, 1, none⟩ = some (.string a1_1) := (blk_cell BK138.out 1).trans rfl
                      have hcz33_2 : wc.cell? ⟨gb138, 2, none⟩ = some (.bool a1_2) := (blk_cell BK138.out 2).trans rfl
                      have hfz33_0 := blk_frozen BK138.out 0
                      have hfz33_1 := blk_frozen BK138.out 1
                      have hfz33_2 := blk_frozen BK138.out 2
                      go_wp2_with (first | (go_at_call 30; (with_reducible refine (spec_Keyword.calls kj17 a1_1 t148 _ A29.out).mono ?_); rintro e w34 ⟨rfl, hb⟩; have n0_ := Aside0.mk (blk_below (g := gb137) (o := .cells #[.string a0_0, .string a0_1, .bool true] 31 (0, 0)) (by (with_reducible repeat (first | refine blk_drewN ?_ _ | refine blk_drew ?_ | refine blk_alloc ?_ _)); exact BK137.out) hb); have n1_ := Aside0.mk (blk_below (g := gb138) (o := .cells #[.string a1_0, .string a1_1, .bool a1_2] 31 (0, 0)) (by (with_reducible repeat (first | refine blk_drewN ?_ _ | refine blk_drew ?_ | refine blk_alloc ?_ _)); exact BK138.out) hb); have n2_ := Aside0.mk (below_step (by repeat (first | (with_reducible first | exact HB.out | apply below_alloc | apply pw_below_drewN | apply below_drew1 | refine below_set ?_ GE137.out | refine below_set ?_ GE138.out) | exact HB.out)) hb); clear BK137; clear BK138; clear HB; have BK137 := n0_; have BK138 := n1_; have HB := n2_; clear n0_ n1_ n2_; (try clear hb); (try clear hb2); (try clear hk); (try clear hi)) | (go_at_call 30; (with_reducible refine (spec_Keyword.calls kj17 (⟨#[115, 112]⟩ : ByteArray) t149 _ A30.out).mono ?_); rintro e w35 ⟨rfl, hb⟩; have n0_ := Aside0.mk (blk_below (g := gb137) (o := .cells #[.string a0_0, .string a0_1, .bool true] 31 (0, 0)) (by (with_reducible repeat (first | refine blk_drewN ?_ _ | refine blk_drew ?_ | refine blk_alloc ?_ _)); exact BK137.out) hb); have n1_ := Aside0.mk (blk_below (g := gb138) (o := .cells #[.string a1_0, .string a1_1, .bool a1_2] 31 (0, 0)) (by (with_reducible repeat (first | refine blk_drewN ?_ _ | refine blk_drew ?_ | refine blk_alloc ?_ _)); exact BK138.out) hb); have n2_ := Aside0.mk (below_step (by repeat (first | (with_reducible first | exact HB.out | apply below_alloc | apply pw_below_drewN | apply below_drew1 | refine below_set ?_ GE137.out | refine below_set ?_ GE138.out) | exact HB.out)) hb); clear BK137; clear BK138; clear HB; have BK137 := n0_; have BK138 := n1_; have HB := n2_; clear n0_ n1_ n2_; (try clear hb); (try clear hb2); (try clear hk); (try clear hi)))
                      repeat (go_quiet (first | (go_at_call 30; (with_reducible refine (spec_Keyword.calls kj17 a1_1 t148 _ A29.out).mono ?_); rintro e w34 ⟨rfl, hb⟩; have n0_ := Aside0.mk (blk_below (g := gb137) (o := .cells #[.string a0_0, .string a0_1, .bool true] 31 (0, 0)) (by (with_reducible repeat (first | refine blk_drewN ?_ _ | refine blk_drew ?_ | refine blk_alloc ?_ _)); exact BK137.out) hb); have n1_ := Aside0.mk (blk_below (g := gb138) (o := .cells #[.string a1_0, .string a1_1, .bool a1_2] 31 (0, 0)) (by (with_reducible repeat (first | refine blk_drewN ?_ _ | refine blk_drew ?_ | refine blk_alloc ?_ _)); exact BK138.out) hb); have n2_ := Aside0.mk (below_step (by repeat (first | (with_reducible first | exact HB.out | apply below_alloc | apply pw_below_drewN | apply below_drew1 | refine below_set ?_ GE137.out | refine below_set ?_ GE138.out) | exact HB.out)) hb); clear BK137; clear BK138; clear HB; have BK137 := n0_; have BK138 := n1_; have HB := n2_; clear n0_ n1_ n2_; (try clear hb); (try clear hb2); (try clear hk); (try clear hi)) | (go_at_call 30; (with_reducible refine (spec_Keyword.calls kj17 (⟨#[115, 112]⟩ : ByteArray) t149 _ A30.out).mono ?_); rintro e w35 ⟨rfl, hb⟩; have n0_ := Aside0.mk (blk_below (g := gb137) (o := .cells #[.string a0_0, .string a0_1, .bool true] 31 (0, 0)) (by (with_reducible repeat (first | refine blk_drewN ?_ _ | refine blk_drew ?_ | refine blk_alloc ?_ _)); exact BK137.out) hb); have n1_ := Aside0.mk (blk_below (g := gb138) (o := .cells #[.string a1_0, .string a1_1, .bool a1_2] 31 (0, 0)) (by (with_reducible repeat (first | refine blk_drewN ?_ _ | refine blk_drew ?_ | refine blk_alloc ?_ _)); exact BK138.out) hb); have n2_ := Aside0.mk (below_step (by repeat (first | (with_reducible first | exact HB.out | apply below_alloc | apply pw_below_drewN | apply below_drew1 | refine below_set ?_ GE137.out | refine below_set ?_ GE138.out) | exact HB.out)) hb); clear BK137; clear BK138; clear HB; have BK137 := n0_; have BK138 := n1_; have HB := n2_; clear n0_ n1_ n2_; (try clear hb); (try clear hb2); (try clear hk); (try clear hi))); try go_wp2_with (first | (go_at_call 30; (with_reducible refine (spec_Keyword.calls kj17 a1_1 t148 _ A29.out).mono ?_); rintro e w34 ⟨rfl, hb⟩; have n0_ := Aside0.mk (blk_below (g := gb137) (o := .cells #[.string a0_0, .string a0_1, .bool true] 31 (0, 0)) (by (with_reducible repeat (first | refine blk_drewN ?_ _ | refine blk_drew ?_ | refine blk_alloc ?_ _)); exact BK137.out) hb); have n1_ := Aside0.mk (blk_below (g := gb138) (o := .cells #[.string a1_0, .string a1_1, .bool a1_2] 31 (0, 0)) (by (with_reducible repeat (first | refine blk_drewN ?_ _ | refine blk_drew ?_ | refine blk_alloc ?_ _)); exact BK138.out) hb); have n2_ := Aside0.mk (below_step (by repeat (first | (with_reducible first | exact HB.out | apply below_alloc | apply pw_below_drewN | apply below_drew1 | refine below_set ?_ GE137.out | refine below_set ?_ GE138.out) | exact HB.out)) hb); clear BK137; clear BK138; clear HB; have BK137 := n0_; have BK138 := n1_; have HB := n2_; clear n0_ n1_ n2_; (try clear hb); (try clear hb2); (try clear hk); (try clear hi)) | (go_at_call 30; (with_reducible refine (spec_Keyword.calls kj17 (⟨#[115, 112]⟩ : ByteArray) t149 _ A30.out).mono ?_); rintro e w35 ⟨rfl, hb⟩; have n0_ := Aside0.mk (blk_below (g := gb137) (o := .cells #[.string a0_0, .string a0_1, .bool true] 31 (0, 0)) (by (with_reducible repeat (first | refine blk_drewN ?_ _ | refine blk_drew ?_ | refine blk_alloc ?_ _)); exact BK137.out) hb); have n1_ := Aside0.mk (blk_below (g := gb138) (o := .cells #[.string a1_0, .string a1_1, .bool a1_2] 31 (0, 0)) (by (with_reducible repeat (first | refine blk_drewN ?_ _ | refine blk_drew ?_ | refine blk_alloc ?_ _)); exact BK138.out) hb); have n2_ := Aside0.mk (below_step (by repeat (first | (with_reducible first | exact HB.out | apply below_alloc | apply pw_below_drewN | apply below_drew1 | refine below_set ?_ GE137.out | refine below_set ?_ GE138.out) | exact HB.out)) hb); clear BK137; clear BK138; clear HB; have BK137 := n0_; have BK138 := n1_; have HB := n2_; clear n0_ n1_ n2_; (try clear hb); (try clear hb2); (try clear hk); (try clear hi))))
                      go_meet
                      case rel => exact ⟨_, (decide (t148 > t149)), (by first | rfl | (simp; done) | (simp [*]; done) | (simp [bne_nil_]; done)), H', ⟨by have := HJ5.out; have := HJ17.out; first | omega | exact Nat.le_refl _⟩, ⟨by (with_reducible repeat (first | refine blk_drewN ?_ _ | refine blk_drew ?_ | refine blk_alloc ?_ _)); exact BK137.out⟩, ⟨by (with_reducible repeat (first | refine blk_drewN ?_ _ | refine blk_drew ?_ | refine blk_alloc ?_ _)); exact BK138.out⟩, ⟨by repeat (first | (with_reducible first | exact HB.out | apply below_alloc | apply pw_below_drewN | apply below_drew1 | refine below_set ?_ GE137.out | refine below_set ?_ GE138.out) | exact HB.out)⟩⟩
                    · replace c28 := Bool.eq_false_iff.mpr c28
                      subst c28
                      have H1 : (spec_mavenOne.j2 kj17 true t140 false a0_0 a0_1 false a1_0 a1_1 a1_2) = some (r1, r2) := by rw [if_neg (show ¬ (false = true) by decide)] at H; exact H
                      clear H
                      have H := H1
                      clear H1
                      have H' := Aside0.mk H
                      clear H
                      have hnb36 := NB137_138.out
                      have hnc36 := NB138_137.out
                      have hcz37_0 : wc.cell? ⟨gb137, 0, none⟩ = some (.string a0_0) := (blk_cell BK137.out 0).trans rfl
                      have hcz37_1 : wc.cell? ⟨gb137, 1, none⟩ = some (.string a0_1) := (blk_cell BK137.out 1).trans rfl
                      have hcz37_2 : wc.cell? ⟨gb137, 2, none⟩ = some (.bool false) := (blk_cell BK137.out 2).trans rfl
                      have hfz37_0 := blk_frozen BK137.out 0
                      have hfz37_1 := blk_frozen BK137.out 1
                      have hfz37_2 := blk_frozen BK137.out 2
                      go_wp2
                      repeat (go_quiet (fail); try go_wp2)
                      go_meet
                      case rel => exact ⟨_, (false), (by first | rfl | (simp; done) | (simp [*]; done) | (simp [bne_nil_]; done)), H', ⟨by have := HJ5.out; have := HJ17.out; first | omega | exact Nat.le_refl _⟩, ⟨by (with_reducible repeat (first | refine blk_drewN ?_ _ | refine blk_drew ?_ | refine blk_alloc ?_ _)); exact BK137.out⟩, ⟨by (with_reducible repeat (first | refine blk_drewN ?_ _ | refine blk_drew ?_ | refine blk_alloc ?_ _)); exact BK138.out⟩, ⟨by repeat (first | (with_reducible first | exact HB.out | apply below_alloc | apply pw_below_drewN | apply below_drew1 | refine below_set ?_ GE137.out | refine below_set ?_ GE138.out) | exact HB.out)⟩⟩
                  · replace c27 := Bool.eq_false_iff.mpr c27
                    subst c27
                    have H1 : (spec_mavenOne.j2 kj17 false t140 false a0_0 a0_1 a0_2 a1_0 a1_1 a1_2) = some (r1, r2) := by rw [if_neg (show ¬ (false = true) by decide)] at H; exact H
                    clear H
                    have H := H1
                    clear H1
                    have H' := Aside0.mk H
                    clear H
                    go_wp2
                    repeat (go_quiet (fail); try go_wp2)
                    go_meet
                    case rel => exact ⟨_, (false), (by first | rfl | (simp; done) | (simp [*]; done) | (simp [bne_nil_]; done)), H', ⟨by have := HJ5.out; have := HJ17.out; first | omega | exact Nat.le_refl _⟩, ⟨by (with_reducible repeat (first | refine blk_drewN ?_ _ | refine blk_drew ?_ | refine blk_alloc ?_ _)); exact BK137.out⟩, ⟨by (with_reducible repeat (first | refine blk_drewN ?_ _ | refine blk_drew ?_ | refine blk_alloc ?_ _)); exact BK138.out⟩, ⟨by repeat (first | (with_reducible first | exact HB.out | apply below_alloc | apply pw_below_drewN | apply below_drew1 | refine below_set ?_ GE137.out | refine below_set ?_ GE138.out) | exact HB.out)⟩⟩
                case rest =>
                  clear HC26
                  try clear c1
                  try clear c2
                  try clear p2
                  try clear c3
                  try clear c5
                  try clear c5b0
                  try clear c5b1
                  try clear c9
                  try clear c12
                  try clear c13
                  try clear c15
                  try clear c19
                  try clear c20
                  try clear c22
                  try clear c27
                  try clear c28
                  try clear c31
                  try clear c36
                  try clear hcz10_0
                  try clear hcz10_1
                  try clear hcz10_2
                  try clear hcz11_0
                  try clear hcz11_1
                  try clear hcz11_2
                  try clear hcz16_0
                  try clear hcz16_1
                  try clear hcz16_2
                  try clear hcz17_0
                  try clear hcz17_1
                  try clear hcz17_2
                  try clear hcz23_0
                  try clear hcz23_1
                  try clear hcz23_2
                  try clear hcz24_0
                  try clear hcz24_1
                  try clear hcz24_2
                  try clear hcz32_0
                  try clear hcz32_1
                  try clear hcz32_2
                  try clear hcz33_0
                  try clear hcz33_1
                  try clear hcz33_2
                  try clear hcz37_0
                  try clear hcz37_1
                  try clear hcz37_2
                  try clear hfz10_0
                  try clear hfz10_1
                  try clear hfz10_2
                  try clear hfz11_0
                  try clear hfz11_1
                  try clear hfz11_2
                  try clear hfz16_0
                  try clear hfz16_1
                  try clear hfz16_2
                  try clear hfz17_0
                  try clear hfz17_1
                  try clear hfz17_2
                  try clear hfz23_0
                  try clear hfz23_1
                  try clear hfz23_2
                  try clear hfz24_0
                  try clear hfz24_1
                  try clear hfz24_2
                  try clear hfz32_0
                  try clear hfz32_1
                  try clear hfz32_2
                  try clear hfz33_0
                  try clear hfz33_1
                  try clear hfz33_2
                  try clear hfz37_0
                  try clear hfz37_1
                  try clear hfz37_2
                  try clear p2
                  obtain ⟨kq, x62_25, rfl, HA, HJ25, BK137, BK138, HB⟩ := hcut
                  cases kq with
                  | zero => exact absurd HA.out (by simp [spec_mavenOne.j2])
                  | succ kj25 =>
                    have H := HA.out
                    clear HA
                    simp only [spec_mavenOne.j2] at H
                    by_cases c38 : x62_25 = true
                    · subst c38
                      have H1 : (some ((-1), true)) = some (r1, r2) := by rw [if_pos rfl] at H; exact H
                      clear H
                      have H := H1
                      clear H1
                      simp only [Option.some.injEq, Prod.mk.injEq] at H
                      obtain ⟨rfl, rfl⟩ := H
                      go_wp2
                      repeat (go_quiet (fail); try go_wp2)
                      go_ret2
                      exact ⟨by first | rfl | (simp [errW_none, errW_some] <;> rfl) | (simp [*, errW_none, errW_some] <;> rfl) | (simp [bne_nil_]; done), by repeat (first | (with_reducible first | exact HB.out | apply below_alloc | apply pw_below_drewN | apply below_drew1 | refine below_set ?_ GE137.out | refine below_set ?_ GE138.out) | exact HB.out)⟩
                    · replace c38 := Bool.eq_false_iff.mpr c38
                      subst c38
                      have H1 : (if t140 = true then (if a1_2 = true then ((spec_Keyword.f kj25 a0_1).bind fun t150 => ((spec_Keyword.f kj25 (⟨#[115, 112]⟩ : ByteArray)).bind fun t151 => (spec_mavenOne.j3 kj25 t139 (decide (t150 > t151))))) else (spec_mavenOne.j3 kj25 t139 false)) else (spec_mavenOne.j3 kj25 t139 false)) = some (r1, r2) := by rw [if_neg (show ¬ (false = true) by decide)] at H; exact H
                      clear H
                      have H := H1
                      clear H1
                      have HC39 := Aside0.mk H
                      clear H
                      go_upto_region 12 with (fail)
                      repeat (go_quiet (fail); go_upto_region 12 with (fail))
                      go_cut [75] (fun v75 wc => ∃ (kq : Nat) (x75_38 : Bool), v75 = .bool x75_38 ∧ Aside0 (spec_mavenOne.j3 kq t139 x75_38 = some (r1, r2)) ∧ Aside0 (kq ≤ kj25) ∧ Aside0 (wc.heap[gb137]? = some (.cells #[.string a0_0, .string a0_1, .bool a0_2] 31 (0, 0))) ∧ Aside0 (wc.heap[gb138]? = some (.cells #[.string a1_0, .string a1_1, .bool a1_2] 31 (0, 0))) ∧ Aside0 (Below w.heap.size w wc))
                      case first =>
                        have H := HC39.out
                        clear HC39
                        by_cases c40 : t140 = true
                        · subst c40
                          have H1 : (if a1_2 = true then ((spec_Keyword.f kj25 a0_1).bind fun t150 => ((spec_Keyword.f kj25 (⟨#[115, 112]⟩ : ByteArray)).bind fun t151 => (spec_mavenOne.j3 kj25 t139 (decide (t150 > t151))))) else (spec_mavenOne.j3 kj25 t139 false)) = some (r1, r2) := by rw [if_pos rfl] at H; exact H
                          clear H
                          have H := H1
                          clear H1
                          by_cases c41 : a1_2 = true
                          · subst c41
                            have H1 : ((spec_Keyword.f kj25 a0_1).bind fun t150 => ((spec_Keyword.f kj25 (⟨#[115, 112]⟩ : ByteArray)).bind fun t151 => (spec_mavenOne.j3 kj25 t139 (decide (t150 > t151))))) = some (r1, r2) := by rw [if_pos rfl] at H; exact H
                            clear H
                            have H := H1
                            clear H1
                            replace H := Option.bind_eq_some_iff.mp H
                            obtain ⟨t150, A420, H⟩ := H
                            replace H : ((spec_Keyword.f kj25 (⟨#[115, 112]⟩ : ByteArray)).bind fun t151 => (spec_mavenOne.j3 kj25 t139 (decide (t150 > t151)))) = some (r1, r2) := H
                            have A42 := Aside0.mk A420
                            clear A420
                            replace H := Option.bind_eq_some_iff.mp H
                            obtain ⟨t151, A430, H⟩ := H
                            replace H : (spec_mavenOne.j3 kj25 t139 (decide (t150 > t151))) = some (r1, r2) := H
                            have A43 := Aside0.mk A430
                            clear A430
                            have H' := Aside0.mk H
                            clear H
                            have hnb44 := NB138_137.out
                            have hnc44 := NB137_138.out
                            have hcz45_0 : wc.cell? ⟨gb138, 0, none⟩ = some (.string a1_0) := (blk_cell BK138.out 0).trans rfl
                            have hcz45_1 : wc.cell? ⟨gb138, 1, none⟩ = some (.string a1_1) := (blk_cell BK138.out 1).trans rfl
                            have hcz45_2 : wc.cell? ⟨gb138, 2, none⟩ = some (.bool true) := (blk_cell BK138.out 2).trans rfl
                            have hfz45_0 := blk_frozen BK138.out 0
                            have hfz45_1 := blk_frozen BK138.out 1
                            have hfz45_2 := blk_frozen BK138.out 2
                            have hcz46_0 : wc.cell? ⟨gb137, 0, none⟩ = some (.string a0_0) := (blk_cell BK137.out 0).trans rfl
                            have hcz46_1 : wc.cell? ⟨gb137, 1, none⟩ = some (.string a0_1) := (blk_cell BK137.out 1).trans rfl
                            have hcz46_2 : wc.cell? ⟨gb137, 2, none⟩ = some (.bool a0_2) := (blk_cell BK137.out 2).trans rfl
                            have hfz46_0 := blk_frozen BK137.out 0
                            have hfz46_1 := blk_frozen BK137.out 1
                            have hfz46_2 := blk_frozen BK137.out 2
                            go_wp2_with (first | (go_at_call 30; (with_reducible refine (spec_Keyword.calls kj25 a0_1 t150 _ A42.out).mono ?_); rintro e w47 ⟨rfl, hb⟩; have n0_ := Aside0.mk (blk_below (g := gb137) (o := .cells #[.string a0_0, .string a0_1, .bool a0_2] 31 (0, 0)) (by (with_reducible repeat (first | refine blk_drewN ?_ _ | refine blk_drew ?_ | refine blk_alloc ?_ _)); exact BK137.out) hb); have n1_ := Aside0.mk (blk_below (g := gb138) (o := .cells #[.string a1_0, .string a1_1, .bool true] 31 (0, 0)) (by (with_reducible repeat (first | refine blk_drewN ?_ _ | refine blk_drew ?_ | refine blk_alloc ?_ _)); exact BK138.out) hb); have n2_ := Aside0.mk (below_step (by repeat (first | (with_reducible first | exact HB.out | apply below_alloc | apply pw_below_drewN | apply below_drew1 | refine below_set ?_ GE137.out | refine below_set ?_ GE138.out) | exact HB.out)) hb); clear BK137; clear BK138; clear HB; have BK137 := n0_; have BK138 := n1_; have HB := n2_; clear n0_ n1_ n2_; (try clear hb); (try clear hb2); (try clear hk); (try clear hi)) | (go_at_call 30; (with_reducible refine (spec_Keyword.calls kj25 (⟨#[115, 112]⟩ : ByteArray) t151 _ A43.out).mono ?_); rintro e w48 ⟨rfl, hb⟩; have n0_ := Aside0.mk (blk_below (g := gb137) (o := .cells #[.string a0_0, .string a0_1, .bool a0_2] 31 (0, 0)) (by (with_reducible repeat (first | refine blk_drewN ?_ _ | refine blk_drew ?_ | refine blk_alloc ?_ _)); exact BK137.out) hb); have n1_ := Aside0.mk (blk_below (g := gb138) (o := .cells #[.string a1_0, .string a1_1, .bool true] 31 (0, 0)) (by (with_reducible repeat (first | refine blk_drewN ?_ _ | refine blk_drew ?_ | refine blk_alloc ?_ _)); exact BK138.out) hb); have n2_ := Aside0.mk (below_step (by repeat (first | (with_reducible first | exact HB.out | apply below_alloc | apply pw_below_drewN | apply below_drew1 | refine below_set ?_ GE137.out | refine below_set ?_ GE138.out) | exact HB.out)) hb); clear BK137; clear BK138; clear HB; have BK137 := n0_; have BK138 := n1_; have HB := n2_; clear n0_ n1_ n2_; (try clear hb); (try clear hb2); (try clear hk); (try clear hi)))
                            repeat (go_quiet (first | (go_at_call 30; (with_reducible refine (spec_Keyword.calls kj25 a0_1 t150 _ A42.out).mono ?_); rintro e w47 ⟨rfl, hb⟩; have n0_ := Aside0.mk (blk_below (g := gb137) (o := .cells #[.string a0_0, .string a0_1, .bool a0_2] 31 (0, 0)) (by (with_reducible repeat (first | refine blk_drewN ?_ _ | refine blk_drew ?_ | refine blk_alloc ?_ _)); exact BK137.out) hb); have n1_ := Aside0.mk (blk_below (g := gb138) (o := .cells #[.string a1_0, .string a1_1, .bool true] 31 (0, 0)) (by (with_reducible repeat (first | refine blk_drewN ?_ _ | refine blk_drew ?_ | refine blk_alloc ?_ _)); exact BK138.out) hb); have n2_ := Aside0.mk (below_step (by repeat (first | (with_reducible first | exact HB.out | apply below_alloc | apply pw_below_drewN | apply below_drew1 | refine below_set ?_ GE137.out | refine below_set ?_ GE138.out) | exact HB.out)) hb); clear BK137; clear BK138; clear HB; have BK137 := n0_; have BK138 := n1_; have HB := n2_; clear n0_ n1_ n2_; (try clear hb); (try clear hb2); (try clear hk); (try clear hi)) | (go_at_call 30; (with_reducible refine (spec_Keyword.calls kj25 (⟨#[115, 112]⟩ : ByteArray) t151 _ A43.out).mono ?_); rintro e w48 ⟨rfl, hb⟩; have n0_ := Aside0.mk (blk_below (g := gb137) (o := .cells #[.string a0_0, .string a0_1, .bool a0_2] 31 (0, 0)) (by (with_reducible repeat (first | refine blk_drewN ?_ _ | refine blk_drew ?_ | refine blk_alloc ?_ _)); exact BK137.out) hb); have n1_ := Aside0.mk (blk_below (g := gb138) (o := .cells #[.string a1_0, .string a1_1, .bool true] 31 (0, 0)) (by (with_reducible repeat (first | refine blk_drewN ?_ _ | refine blk_drew ?_ | refine blk_alloc ?_ _)); exact BK138.out) hb); have n2_ := Aside0.mk (below_step (by repeat (first | (with_reducible first | exact HB.out | apply below_alloc | apply pw_below_drewN | apply below_drew1 | refine below_set ?_ GE137.out | refine below_set ?_ GE138.out) | exact HB.out)) hb); clear BK137; clear BK138; clear HB; have BK137 := n0_; have BK138 := n1_; have HB := n2_; clear n0_ n1_ n2_; (try clear hb); (try clear hb2); (try clear hk); (try clear hi))); try go_wp2_with (first | (go_at_call 30; (with_reducible refine (spec_Keyword.calls kj25 a0_1 t150 _ A42.out).mono ?_); rintro e w47 ⟨rfl, hb⟩; have n0_ := Aside0.mk (blk_below (g := gb137) (o := .cells #[.string a0_0, .string a0_1, .bool a0_2] 31 (0, 0)) (by (with_reducible repeat (first | refine blk_drewN ?_ _ | refine blk_drew ?_ | refine blk_alloc ?_ _)); exact BK137.out) hb); have n1_ := Aside0.mk (blk_below (g := gb138) (o := .cells #[.string a1_0, .string a1_1, .bool true] 31 (0, 0)) (by (with_reducible repeat (first | refine blk_drewN ?_ _ | refine blk_drew ?_ | refine blk_alloc ?_ _)); exact BK138.out) hb); have n2_ := Aside0.mk (below_step (by repeat (first | (with_reducible first | exact HB.out | apply below_alloc | apply pw_below_drewN | apply below_drew1 | refine below_set ?_ GE137.out | refine below_set ?_ GE138.out) | exact HB.out)) hb); clear BK137; clear BK138; clear HB; have BK137 := n0_; have BK138 := n1_; have HB := n2_; clear n0_ n1_ n2_; (try clear hb); (try clear hb2); (try clear hk); (try clear hi)) | (go_at_call 30; (with_reducible refine (spec_Keyword.calls kj25 (⟨#[115, 112]⟩ : ByteArray) t151 _ A43.out).mono ?_); rintro e w48 ⟨rfl, hb⟩; have n0_ := Aside0.mk (blk_below (g := gb137) (o := .cells #[.string a0_0, .string a0_1, .bool a0_2] 31 (0, 0)) (by (with_reducible repeat (first | refine blk_drewN ?_ _ | refine blk_drew ?_ | refine blk_alloc ?_ _)); exact BK137.out) hb); have n1_ := Aside0.mk (blk_below (g := gb138) (o := .cells #[.string a1_0, .string a1_1, .bool true] 31 (0, 0)) (by (with_reducible repeat (first | refine blk_drewN ?_ _ | refine blk_drew ?_ | refine blk_alloc ?_ _)); exact BK138.out) hb); have n2_ := Aside0.mk (below_step (by repeat (first | (with_reducible first | exact HB.out | apply below_alloc | apply pw_below_drewN | apply below_drew1 | refine below_set ?_ GE137.out | refine below_set ?_ GE138.out) | exact HB.out)) hb); clear BK137; clear BK138; clear HB; have BK137 := n0_; have BK138 := n1_; have HB := n2_; clear n0_ n1_ n2_; (try clear hb); (try clear hb2); (try clear hk); (try clear hi))))
                            go_meet
                            case rel => exact ⟨_, (decide (t150 > t151)), (by first | rfl | (simp; done) | (simp [*]; done) | (simp [bne_nil_]; done)), H', ⟨by have := HJ5.out; have := HJ17.out; have := HJ25.out; first | omega | exact Nat.le_refl _⟩, ⟨by (with_reducible repeat (first | refine blk_drewN ?_ _ | refine blk_drew ?_ | refine blk_alloc ?_ _)); exact BK137.out⟩, ⟨by (with_reducible repeat (first | refine blk_drewN ?_ _ | refine blk_drew ?_ | refine blk_alloc ?_ _)); exact BK138.out⟩, ⟨by repeat (first | (with_reducible first | exact HB.out | apply below_alloc | apply pw_below_drewN | apply below_drew1 | refine below_set ?_ GE137.out | refine below_set ?_ GE138.out) | exact HB.out)⟩⟩
                          · replace c41 := Bool.eq_false_iff.mpr c41
                            subst c41
                            have H1 : (spec_mavenOne.j3 kj25 t139 false) = some (r1, r2) := by rw [if_neg (show ¬ (false = true) by decide)] at H; exact H
                            clear H
                            have H := H1
                            clear H1
                            have H' := Aside0.mk H
                            clear H
                            have hnb49 := NB138_137.out
                            have hnc49 := NB137_138.out
                            have hcz50_0 : wc.cell? ⟨gb138, 0, none⟩ = some (.string a1_0) := (blk_cell BK138.out 0).trans rfl
                            have hcz50_1 : wc.cell? ⟨gb138, 1, none⟩ = some (.string a1_1) := (blk_cell BK138.out 1).trans rfl
                            have hcz50_2 : wc.cell? ⟨gb138, 2, none⟩ = some (.bool false) := (blk_cell BK138.out 2).trans rfl
                            have hfz50_0 := blk_frozen BK138.out 0
                            have hfz50_1 := blk_frozen BK138.out 1
                            have hfz50_2 := blk_frozen BK138.out 2
                            go_wp2
                            repeat (go_quiet (fail); try go_wp2)
                            go_meet
                            case rel => exact ⟨_, (false), (by first | rfl | (simp; done) | (simp [*]; done) | (simp [bne_nil_]; done)), H', ⟨by have := HJ5.out; have := HJ17.out; have := HJ25.out; first | omega | exact Nat.le_refl _⟩, ⟨by (with_reducible repeat (first | refine blk_drewN ?_ _ | refine blk_drew ?_ | refine blk_alloc ?_ _)); exact BK137.out⟩, ⟨by (with_reducible repeat (first | refine blk_drewN ?_ _ | refine blk_drew ?_ | refine blk_alloc ?_ _)); exact BK138.out⟩, ⟨by repeat (first | (with_reducible first | exact HB.out | apply below_alloc | apply pw_below_drewN | apply below_drew1 | refine below_set ?_ GE137.out | refine below_set ?_ GE138.out) | exact HB.out)⟩⟩
                        · replace c40 := Bool.eq_false_iff.mpr c40
                          subst c40
                          have H1 : (spec_mavenOne.j3 kj25 t139 false) = some (r1, r2) := by rw [if_neg (show ¬ (false = true) by decide)] at H; exact H
                          clear H
                          have H := H1
                          clear H1
                          have H' := Aside0.mk H
                          clear H
                          go_wp2
                          repeat (go_quiet (fail); try go_wp2)
                          go_meet
                          case rel => exact ⟨_, (false), (by first | rfl | (simp; done) | (simp [*]; done) | (simp [bne_nil_]; done)), H', ⟨by have := HJ5.out; have := HJ17.out; have := HJ25.out; first | omega | exact Nat.le_refl _⟩, ⟨by (with_reducible repeat (first | refine blk_drewN ?_ _ | refine blk_drew ?_ | refine blk_alloc ?_ _)); exact BK137.out⟩, ⟨by (with_reducible repeat (first | refine blk_drewN ?_ _ | refine blk_drew ?_ | refine blk_alloc ?_ _)); exact BK138.out⟩, ⟨by repeat (first | (with_reducible first | exact HB.out | apply below_alloc | apply pw_below_drewN | apply below_drew1 | refine below_set ?_ GE137.out | refine below_set ?_ GE138.out) | exact HB.out)⟩⟩
                      case rest =>
                        clear HC39
                        try clear c1
                        try clear c2
                        try clear p2
                        try clear c3
                        try clear c4
                        try clear c5
                        try clear c5b0
                        try clear c5b1
                        try clear c9
                        try clear c12
                        try clear c13
                        try clear c15
                        try clear c19
                        try clear c20
                        try clear c22
                        try clear c27
                        try clear c28
                        try clear c31
                        try clear c36
                        try clear c38
                        try clear c40
                        try clear c41
                        try clear c44
                        try clear c49
                        try clear hcz10_0
                        try clear hcz10_1
                        try clear hcz10_2
                        try clear hcz11_0
                        try clear hcz11_1
                        try clear hcz11_2
                        try clear hcz16_0
                        try clear hcz16_1
                        try clear hcz16_2
                        try clear hcz17_0
                        try clear hcz17_1
                        try clear hcz17_2
                        try clear hcz23_0
                        try clear hcz23_1
                        try clear hcz23_2
                        try clear hcz24_0
                        try clear hcz24_1
                        try clear hcz24_2
                        try clear hcz32_0
                        try clear hcz32_1
                        try clear hcz32_2
                        try clear hcz33_0
                        try clear hcz33_1
                        try clear hcz33_2
                        try clear hcz37_0
                        try clear hcz37_1
                        try clear hcz37_2
                        try clear hcz45_0
                        try clear hcz45_1
                        try clear hcz45_2
                        try clear hcz46_0
                        try clear hcz46_1
                        try clear hcz46_2
                        try clear hcz50_0
                        try clear hcz50_1
                        try clear hcz50_2
                        try clear hfz10_0
                        try clear hfz10_1
                        try clear hfz10_2
                        try clear hfz11_0
                        try clear hfz11_1
                        try clear hfz11_2
                        try clear hfz16_0
                        try clear hfz16_1
                        try clear hfz16_2
                        try clear hfz17_0
                        try clear hfz17_1
                        try clear hfz17_2
                        try clear hfz23_0
                        try clear hfz23_1
                        try clear hfz23_2
                        try clear hfz24_0
                        try clear hfz24_1
                        try clear hfz24_2
                        try clear hfz32_0
                        try clear hfz32_1
                        try clear hfz32_2
                        try clear hfz33_0
                        try clear hfz33_1
                        try clear hfz33_2
                        try clear hfz37_0
                        try clear hfz37_1
                        try clear hfz37_2
                        try clear hfz45_0
                        try clear hfz45_1
                        try clear hfz45_2
                        try clear hfz46_0
                        try clear hfz46_1
                        try clear hfz46_2
                        try clear hfz50_0
                        try clear hfz50_1
                        try clear hfz50_2
                        try clear p2
                        obtain ⟨kq, x75_38, rfl, HA, HJ38, BK137, BK138, HB⟩ := hcut
                        cases kq with
                        | zero => exact absurd HA.out (by simp [spec_mavenOne.j3])
                        | succ kj38 =>
                          have H := HA.out
                          clear HA
                          simp only [spec_mavenOne.j3] at H
                          by_cases c51 : x75_38 = true
                          · subst c51
                            have H1 : (some (1, true)) = some (r1, r2) := by rw [if_pos rfl] at H; exact H
                            clear H
                            have H := H1
                            clear H1
                            simp only [Option.some.injEq, Prod.mk.injEq] at H
                            obtain ⟨rfl, rfl⟩ := H
                            go_wp2
                            repeat (go_quiet (fail); try go_wp2)
                            go_ret2
                            exact ⟨by first | rfl | (simp [errW_none, errW_some] <;> rfl) | (simp [*, errW_none, errW_some] <;> rfl) | (simp [bne_nil_]; done), by repeat (first | (with_reducible first | exact HB.out | apply below_alloc | apply pw_below_drewN | apply below_drew1 | refine below_set ?_ GE137.out | refine below_set ?_ GE138.out) | exact HB.out)⟩
                          · replace c51 := Bool.eq_false_iff.mpr c51
                            subst c51
                            have H1 : (if t139 = true then (some (1, true)) else (some ((-1), true))) = some (r1, r2) := by rw [if_neg (show ¬ (false = true) by decide)] at H; exact H
                            clear H
                            have H := H1
                            clear H1
                            by_cases c52 : t139 = true
                            · subst c52
                              have H1 : (some (1, true)) = some (r1, r2) := by rw [if_pos rfl] at H; exact H
                              clear H
                              have H := H1
                              clear H1
                              simp only [Option.some.injEq, Prod.mk.injEq] at H
                              obtain ⟨rfl, rfl⟩ := H
                              go_wp2
                              repeat (go_quiet (fail); try go_wp2)
                              go_ret2
                              exact ⟨by first | rfl | (simp [errW_none, errW_some] <;> rfl) | (simp [*, errW_none, errW_some] <;> rfl) | (simp [bne_nil_]; done), by repeat (first | (with_reducible first | exact HB.out | apply below_alloc | apply pw_below_drewN | apply below_drew1 | refine below_set ?_ GE137.out | refine below_set ?_ GE138.out) | exact HB.out)⟩
                            · replace c52 := Bool.eq_false_iff.mpr c52
                              subst c52
                              have H1 : (some ((-1), true)) = some (r1, r2) := by rw [if_neg (show ¬ (false = true) by decide)] at H; exact H
                              clear H
                              have H := H1
                              clear H1
                              simp only [Option.some.injEq, Prod.mk.injEq] at H
                              obtain ⟨rfl, rfl⟩ := H
                              go_wp2
                              repeat (go_quiet (fail); try go_wp2)
                              go_ret2
                              exact ⟨by first | rfl | (simp [errW_none, errW_some] <;> rfl) | (simp [*, errW_none, errW_some] <;> rfl) | (simp [bne_nil_]; done), by repeat (first | (with_reducible first | exact HB.out | apply below_alloc | apply pw_below_drewN | apply below_drew1 | refine below_set ?_ GE137.out | refine below_set ?_ GE138.out) | exact HB.out)⟩
  · rw [if_neg c5] at H
    have c5b0 : (a0_0.toList == a1_0.toList) = false := beq_eq_false_iff_ne.mpr c5
    have c5b1 : (a0_0.toList != a1_0.toList) = true := bne_iff_ne.mpr c5
    replace H := Option.bind_eq_some_iff.mp H
    obtain ⟨⟨t141, t142⟩, A530, H⟩ := H
    replace H : ((spec_TokenOrder.f k a1_0 a1_1 a1_2).bind fun bt143 => ((spec_orderInts.f t141 bt143.1).bind fun t145 => (if t142 = true then (some (t145, bt143.2)) else (some (t145, false))))) = some (r1, r2) := H
    have A53 := Aside0.mk A530
    clear A530
    replace H := Option.bind_eq_some_iff.mp H
    obtain ⟨⟨t143, t144⟩, A540, H⟩ := H
    replace H : ((spec_orderInts.f t141 t143).bind fun t145 => (if t142 = true then (some (t145, t144)) else (some (t145, false)))) = some (r1, r2) := H
    have A54 := Aside0.mk A540
    clear A540
    replace H := Option.bind_eq_some_iff.mp H
    obtain ⟨t145, A550, H⟩ := H
    replace H : (if t142 = true then (some (t145, t144)) else (some (t145, false))) = some (r1, r2) := H
    have A55 := Aside0.mk A550
    clear A550
    by_cases c56 : t142 = true
    · subst c56
      have H1 : (some (t145, t144)) = some (r1, r2) := by rw [if_pos rfl] at H; exact H
      clear H
      have H := H1
      clear H1
      simp only [Option.some.injEq, Prod.mk.injEq] at H
      obtain ⟨rfl, rfl⟩ := H
      go_enter Tryd.func20, Tryd.ntmps20
      go_wp2_with (first | ((with_reducible refine gate_dst (N := 2) rfl ?_); refine box_event ?hg (N := 2) ?hd (cs := #[.string a0_0, .string a0_1, .bool a0_2]) (t := 31) ?hr ?_; (case hd => rfl); (case hg => rfl); (case hr => first | (go_simp; done) | (go_simp; rfl)); intro gb137 hg w57 hbox hb; have n0_ := Aside0.mk (below_step (by repeat (first | (with_reducible first | exact HB.out | apply below_alloc | apply pw_below_drewN | apply below_drew1) | exact HB.out)) hb); have n1_ := Aside0.mk (hbox); have n2_ := Aside0.mk ((by rw [hg]; exact (below_size (by repeat (first | (with_reducible first | exact HB.out | apply below_alloc | apply pw_below_drewN | apply below_drew1) | exact HB.out))) : w.heap.size ≤ gb137)); have n3_ := Aside0.mk ((by rw [hg]; exact (below_size (by repeat (first | (with_reducible first | exact HB.out | apply below_alloc | apply pw_below_drewN | apply below_drew1) | exact HB.out))) : w.heap.size ≤ gb137)); clear HB; have HB := n0_; have BK137 := n1_; have GW137 := n2_; have GE137 := n3_; clear n0_ n1_ n2_ n3_; clear hb hbox hg) | ((with_reducible refine gate_dst (N := 3) rfl ?_); refine box_event ?hg (N := 3) ?hd (cs := #[.string a1_0, .string a1_1, .bool a1_2]) (t := 31) ?hr ?_; (case hd => rfl); (case hg => rfl); (case hr => first | (go_simp; done) | (go_simp; rfl)); intro gb138 hg w58 hbox hb; have n0_ := Aside0.mk (blk_below (g := gb137) (o := .cells #[.string a0_0, .string a0_1, .bool a0_2] 31 (0, 0)) (by (with_reducible repeat (first | refine blk_drewN ?_ _ | refine blk_drew ?_ | refine blk_alloc ?_ _)); exact BK137.out) hb); have n1_ := Aside0.mk (below_step (by repeat (first | (with_reducible first | exact HB.out | apply below_alloc | apply pw_below_drewN | apply below_drew1 | refine below_set ?_ GE137.out) | exact HB.out)) hb); have n2_ := Aside0.mk (hbox); have n3_ := Aside0.mk ((by rw [hg]; exact (below_size (by repeat (first | (with_reducible first | exact HB.out | apply below_alloc | apply pw_below_drewN | apply below_drew1 | refine below_set ?_ GE137.out) | exact HB.out))) : w.heap.size ≤ gb138)); have n4_ := Aside0.mk ((by rw [hg]; exact (below_size (by repeat (first | (with_reducible first | exact HB.out | apply below_alloc | apply pw_below_drewN | apply below_drew1 | refine below_set ?_ GE137.out) | exact HB.out))) : w.heap.size ≤ gb138)); have n5_ := Aside0.mk ((by rw [hg]; exact Nat.ne_of_lt (blk_lt (g := gb137) (o := .cells #[.string a0_0, .string a0_1, .bool a0_2] 31 (0, 0)) (by (with_reducible repeat (first | refine blk_drewN ?_ _ | refine blk_drew ?_ | refine blk_alloc ?_ _)); exact BK137.out)) : gb137 ≠ gb138)); have n6_ := Aside0.mk ((by rw [hg]; exact Nat.ne_of_gt (blk_lt (g := gb137) (o := .cells #[.string a0_0, .string a0_1, .bool a0_2] 31 (0, 0)) (by (with_reducible repeat (first | refine blk_drewN ?_ _ | refine blk_drew ?_ | refine blk_alloc ?_ _)); exact BK137.out)) : gb138 ≠ gb137)); clear BK137; clear HB; have BK137 := n0_; have HB := n1_; have BK138 := n2_; have GW138 := n3_; have GE138 := n4_; have NB137_138 := n5_; have NB138_137 := n6_; clear n0_ n1_ n2_ n3_ n4_ n5_ n6_; clear hb hbox hg; have hnb59 := NB137_138.out; have hnc59 := NB138_137.out; have hcz60_0 : w58.cell? ⟨gb137, 0, none⟩ = some (.string a0_0) := (blk_cell BK137.out 0).trans rfl; have hcz60_1 : w58.cell? ⟨gb137, 1, none⟩ = some (.string a0_1) := (blk_cell BK137.out 1).trans rfl; have hcz60_2 : w58.cell? ⟨gb137, 2, none⟩ = some (.bool a0_2) := (blk_cell BK137.out 2).trans rfl; have hfz60_0 := blk_frozen BK137.out 0; have hfz60_1 := blk_frozen BK137.out 1; have hfz60_2 := blk_frozen BK137.out 2) | (go_at_call 25; (with_reducible refine (spec_allDigits.calls k a0_1 t139 _ A3.out).mono ?_); rintro e w' ⟨rfl, ⟨nd, rfl⟩⟩; (try first | exact ⟨rfl, _, World.drewN_drewN _ _ _⟩ | exact ⟨rfl, _, Eq.trans (World.drewN_drewN _ _ _) (congrArg (World.drewN _) (Nat.add_assoc _ _ _))⟩); have hcz61_0 : w58.cell? ⟨gb138, 0, none⟩ = some (.string a1_0) := (blk_cell BK138.out 0).trans rfl; have hcz61_1 : w58.cell? ⟨gb138, 1, none⟩ = some (.string a1_1) := (blk_cell BK138.out 1).trans rfl; have hcz61_2 : w58.cell? ⟨gb138, 2, none⟩ = some (.bool a1_2) := (blk_cell BK138.out 2).trans rfl; have hfz61_0 := blk_frozen BK138.out 0; have hfz61_1 := blk_frozen BK138.out 1; have hfz61_2 := blk_frozen BK138.out 2) | (go_at_call 25; (with_reducible refine (spec_allDigits.calls k a1_1 t140 _ A4.out).mono ?_); rintro e w' ⟨rfl, ⟨nd, rfl⟩⟩; (try first | exact ⟨rfl, _, World.drewN_drewN _ _ _⟩ | exact ⟨rfl, _, Eq.trans (World.drewN_drewN _ _ _) (congrArg (World.drewN _) (Nat.add_assoc _ _ _))⟩)) | (go_at_call 26; (with_reducible refine (spec_TokenOrder.calls k a0_0 a0_1 a0_2 t141 true _ A53.out).mono ?_); rintro e w62 ⟨rfl, hb⟩; have n0_ := Aside0.mk (blk_below (g := gb137) (o := .cells #[.string a0_0, .string a0_1, .bool a0_2] 31 (0, 0)) (by (with_reducible repeat (first | refine blk_drewN ?_ _ | refine blk_drew ?_ | refine blk_alloc ?_ _)); exact BK137.out) hb); have n1_ := Aside0.mk (blk_below (g := gb138) (o := .cells #[.string a1_0, .string a1_1, .bool a1_2] 31 (0, 0)) (by (with_reducible repeat (first | refine blk_drewN ?_ _ | refine blk_drew ?_ | refine blk_alloc ?_ _)); exact BK138.out) hb); have n2_ := Aside0.mk (below_step (by repeat (first | (with_reducible first | exact HB.out | apply below_alloc | apply pw_below_drewN | apply below_drew1 | refine below_set ?_ GE137.out | refine below_set ?_ GE138.out) | exact HB.out)) hb); clear BK137; clear BK138; clear HB; have BK137 := n0_; have BK138 := n1_; have HB := n2_; clear n0_ n1_ n2_; (try clear hb); (try clear hb2); (try clear hk); (try clear hi); have hcz63_0 : w62.cell? ⟨gb138, 0, none⟩ = some (.string a1_0) := (blk_cell BK138.out 0).trans rfl; have hcz63_1 : w62.cell? ⟨gb138, 1, none⟩ = some (.string a1_1) := (blk_cell BK138.out 1).trans rfl; have hcz63_2 : w62.cell? ⟨gb138, 2, none⟩ = some (.bool a1_2) := (blk_cell BK138.out 2).trans rfl; have hfz63_0 := blk_frozen BK138.out 0; have hfz63_1 := blk_frozen BK138.out 1; have hfz63_2 := blk_frozen BK138.out 2) | (go_at_call 26; (with_reducible refine (spec_TokenOrder.calls k a1_0 a1_1 a1_2 t143 t144 _ A54.out).mono ?_); rintro e w64 ⟨rfl, hb⟩; have n0_ := Aside0.mk (blk_below (g := gb137) (o := .cells #[.string a0_0, .string a0_1, .bool a0_2] 31 (0, 0)) (by (with_reducible repeat (first | refine blk_drewN ?_ _ | refine blk_drew ?_ | refine blk_alloc ?_ _)); exact BK137.out) hb); have n1_ := Aside0.mk (blk_below (g := gb138) (o := .cells #[.string a1_0, .string a1_1, .bool a1_2] 31 (0, 0)) (by (with_reducible repeat (first | refine blk_drewN ?_ _ | refine blk_drew ?_ | refine blk_alloc ?_ _)); exact BK138.out) hb); have n2_ := Aside0.mk (below_step (by repeat (first | (with_reducible first | exact HB.out | apply below_alloc | apply pw_below_drewN | apply below_drew1 | refine below_set ?_ GE137.out | refine below_set ?_ GE138.out) | exact HB.out)) hb); clear BK137; clear BK138; clear HB; have BK137 := n0_; have BK138 := n1_; have HB := n2_; clear n0_ n1_ n2_; (try clear hb); (try clear hb2); (try clear hk); (try clear hi)) | (go_at_call 27; (with_reducible refine (spec_orderInts.calls t141 t143 t145 _ A55.out).mono ?_); rintro e w' ⟨rfl, ⟨nd, rfl⟩⟩; (try first | exact ⟨rfl, _, World.drewN_drewN _ _ _⟩ | exact ⟨rfl, _, Eq.trans (World.drewN_drewN _ _ _) (congrArg (World.drewN _) (Nat.add_assoc _ _ _))⟩)))
      repeat (go_quiet (first | ((with_reducible refine gate_dst (N := 2) rfl ?_); refine box_event ?hg (N := 2) ?hd (cs := #[.string a0_0, .string a0_1, .bool a0_2]) (t := 31) ?hr ?_; (case hd => rfl); (case hg => rfl); (case hr => first | (go_simp; done) | (go_simp; rfl)); intro gb137 hg w57 hbox hb; have n0_ := Aside0.mk (below_step (by repeat (first | (with_reducible first | exact HB.out | apply below_alloc | apply pw_below_drewN | apply below_drew1) | exact HB.out)) hb); have n1_ := Aside0.mk (hbox); have n2_ := Aside0.mk ((by rw [hg]; exact (below_size (by repeat (first | (with_reducible first | exact HB.out | apply below_alloc | apply pw_below_drewN | apply below_drew1) | exact HB.out))) : w.heap.size ≤ gb137)); have n3_ := Aside0.mk ((by rw [hg]; exact (below_size (by repeat (first | (with_reducible first | exact HB.out | apply below_alloc | apply pw_below_drewN | apply below_drew1) | exact HB.out))) : w.heap.size ≤ gb137)); clear HB; have HB := n0_; have BK137 := n1_; have GW137 := n2_; have GE137 := n3_; clear n0_ n1_ n2_ n3_; clear hb hbox hg) | ((with_reducible refine gate_dst (N := 3) rfl ?_); refine box_event ?hg (N := 3) ?hd (cs := #[.string a1_0, .string a1_1, .bool a1_2]) (t := 31) ?hr ?_; (case hd => rfl); (case hg => rfl); (case hr => first | (go_simp; done) | (go_simp; rfl)); intro gb138 hg w58 hbox hb; have n0_ := Aside0.mk (blk_below (g := gb137) (o := .cells #[.string a0_0, .string a0_1, .bool a0_2] 31 (0, 0)) (by (with_reducible repeat (first | refine blk_drewN ?_ _ | refine blk_drew ?_ | refine blk_alloc ?_ _)); exact BK137.out) hb); have n1_ := Aside0.mk (below_step (by repeat (first | (with_reducible first | exact HB.out | apply below_alloc | apply pw_below_drewN | apply below_drew1 | refine below_set ?_ GE137.out) | exact HB.out)) hb); have n2_ := Aside0.mk (hbox); have n3_ := Aside0.mk ((by rw [hg]; exact (below_size (by repeat (first | (with_reducible first | exact HB.out | apply below_alloc | apply pw_below_drewN | apply below_drew1 | refine below_set ?_ GE137.out) | exact HB.out))) : w.heap.size ≤ gb138)); have n4_ := Aside0.mk ((by rw [hg]; exact (below_size (by repeat (first | (with_reducible first | exact HB.out | apply below_alloc | apply pw_below_drewN | apply below_drew1 | refine below_set ?_ GE137.out) | exact HB.out))) : w.heap.size ≤ gb138)); have n5_ := Aside0.mk ((by rw [hg]; exact Nat.ne_of_lt (blk_lt (g := gb137) (o := .cells #[.string a0_0, .string a0_1, .bool a0_2] 31 (0, 0)) (by (with_reducible repeat (first | refine blk_drewN ?_ _ | refine blk_drew ?_ | refine blk_alloc ?_ _)); exact BK137.out)) : gb137 ≠ gb138)); have n6_ := Aside0.mk ((by rw [hg]; exact Nat.ne_of_gt (blk_lt (g := gb137) (o := .cells #[.string a0_0, .string a0_1, .bool a0_2] 31 (0, 0)) (by (with_reducible repeat (first | refine blk_drewN ?_ _ | refine blk_drew ?_ | refine blk_alloc ?_ _)); exact BK137.out)) : gb138 ≠ gb137)); clear BK137; clear HB; have BK137 := n0_; have HB := n1_; have BK138 := n2_; have GW138 := n3_; have GE138 := n4_; have NB137_138 := n5_; have NB138_137 := n6_; clear n0_ n1_ n2_ n3_ n4_ n5_ n6_; clear hb hbox hg; have hnb59 := NB137_138.out; have hnc59 := NB138_137.out; have hcz60_0 : w58.cell? ⟨gb137, 0, none⟩ = some (.string a0_0) := (blk_cell BK137.out 0).trans rfl; have hcz60_1 : w58.cell? ⟨gb137, 1, none⟩ = some (.string a0_1) := (blk_cell BK137.out 1).trans rfl; have hcz60_2 : w58.cell? ⟨gb137, 2, none⟩ = some (.bool a0_2) := (blk_cell BK137.out 2).trans rfl; have hfz60_0 := blk_frozen BK137.out 0; have hfz60_1 := blk_frozen BK137.out 1; have hfz60_2 := blk_frozen BK137.out 2) | (go_at_call 25; (with_reducible refine (spec_allDigits.calls k a0_1 t139 _ A3.out).mono ?_); rintro e w' ⟨rfl, ⟨nd, rfl⟩⟩; (try first | exact ⟨rfl, _, World.drewN_drewN _ _ _⟩ | exact ⟨rfl, _, Eq.trans (World.drewN_drewN _ _ _) (congrArg (World.drewN _) (Nat.add_assoc _ _ _))⟩); have hcz61_0 : w58.cell? ⟨gb138, 0, none⟩ = some (.string a1_0) := (blk_cell BK138.out 0).trans rfl; have hcz61_1 : w58.cell? ⟨gb138, 1, none⟩ = some (.string a1_1) := (blk_cell BK138.out 1).trans rfl; have hcz61_2 : w58.cell? ⟨gb138, 2, none⟩ = some (.bool a1_2) := (blk_cell BK138.out 2).trans rfl; have hfz61_0 := blk_frozen BK138.out 0; have hfz61_1 := blk_frozen BK138.out 1; have hfz61_2 := blk_frozen BK138.out 2) | (go_at_call 25; (with_reducible refine (spec_allDigits.calls k a1_1 t140 _ A4.out).mono ?_); rintro e w' ⟨rfl, ⟨nd, rfl⟩⟩; (try first | exact ⟨rfl, _, World.drewN_drewN _ _ _⟩ | exact ⟨rfl, _, Eq.trans (World.drewN_drewN _ _ _) (congrArg (World.drewN _) (Nat.add_assoc _ _ _))⟩)) | (go_at_call 26; (with_reducible refine (spec_TokenOrder.calls k a0_0 a0_1 a0_2 t141 true _ A53.out).mono ?_); rintro e w62 ⟨rfl, hb⟩; have n0_ := Aside0.mk (blk_below (g := gb137) (o := .cells #[.string a0_0, .string a0_1, .bool a0_2] 31 (0, 0)) (by (with_reducible repeat (first | refine blk_drewN ?_ _ | refine blk_drew ?_ | refine blk_alloc ?_ _)); exact BK137.out) hb); have n1_ := Aside0.mk (blk_below (g := gb138) (o := .cells #[.string a1_0, .string a1_1, .bool a1_2] 31 (0, 0)) (by (with_reducible repeat (first | refine blk_drewN ?_ _ | refine blk_drew ?_ | refine blk_alloc ?_ _)); exact BK138.out) hb); have n2_ := Aside0.mk (below_step (by repeat (first | (with_reducible first | exact HB.out | apply below_alloc | apply pw_below_drewN | apply below_drew1 | refine below_set ?_ GE137.out | refine below_set ?_ GE138.out) | exact HB.out)) hb); clear BK137; clear BK138; clear HB; have BK137 := n0_; have BK138 := n1_; have HB := n2_; clear n0_ n1_ n2_; (try clear hb); (try clear hb2); (try clear hk); (try clear hi); have hcz63_0 : w62.cell? ⟨gb138, 0, none⟩ = some (.string a1_0) := (blk_cell BK138.out 0).trans rfl; have hcz63_1 : w62.cell? ⟨gb138, 1, none⟩ = some (.string a1_1) := (blk_cell BK138.out 1).trans rfl; have hcz63_2 : w62.cell? ⟨gb138, 2, none⟩ = some (.bool a1_2) := (blk_cell BK138.out 2).trans rfl; have hfz63_0 := blk_frozen BK138.out 0; have hfz63_1 := blk_frozen BK138.out 1; have hfz63_2 := blk_frozen BK138.out 2) | (go_at_call 26; (with_reducible refine (spec_TokenOrder.calls k a1_0 a1_1 a1_2 t143 t144 _ A54.out).mono ?_); rintro e w64 ⟨rfl, hb⟩; have n0_ := Aside0.mk (blk_below (g := gb137) (o := .cells #[.string a0_0, .string a0_1, .bool a0_2] 31 (0, 0)) (by (with_reducible repeat (first | refine blk_drewN ?_ _ | refine blk_drew ?_ | refine blk_alloc ?_ _)); exact BK137.out) hb); have n1_ := Aside0.mk (blk_below (g := gb138) (o := .cells #[.string a1_0, .string a1_1, .bool a1_2] 31 (0, 0)) (by (with_reducible repeat (first | refine blk_drewN ?_ _ | refine blk_drew ?_ | refine blk_alloc ?_ _)); exact BK138.out) hb); have n2_ := Aside0.mk (below_step (by repeat (first | (with_reducible first | exact HB.out | apply below_alloc | apply pw_below_drewN | apply below_drew1 | refine below_set ?_ GE137.out | refine below_set ?_ GE138.out) | exact HB.out)) hb); clear BK137; clear BK138; clear HB; have BK137 := n0_; have BK138 := n1_; have HB := n2_; clear n0_ n1_ n2_; (try clear hb); (try clear hb2); (try clear hk); (try clear hi)) | (go_at_call 27; (with_reducible refine (spec_orderInts.calls t141 t143 t145 _ A55.out).mono ?_); rintro e w' ⟨rfl, ⟨nd, rfl⟩⟩; (try first | exact ⟨rfl, _, World.drewN_drewN _ _ _⟩ | exact ⟨rfl, _, Eq.trans (World.drewN_drewN _ _ _) (congrArg (World.drewN _) (Nat.add_assoc _ _ _))⟩))); try go_wp2_with (first | ((with_reducible refine gate_dst (N := 2) rfl ?_); refine box_event ?hg (N := 2) ?hd (cs := #[.string a0_0, .string a0_1, .bool a0_2]) (t := 31) ?hr ?_; (case hd => rfl); (case hg => rfl); (case hr => first | (go_simp; done) | (go_simp; rfl)); intro gb137 hg w57 hbox hb; have n0_ := Aside0.mk (below_step (by repeat (first | (with_reducible first | exact HB.out | apply below_alloc | apply pw_below_drewN | apply below_drew1) | exact HB.out)) hb); have n1_ := Aside0.mk (hbox); have n2_ := Aside0.mk ((by rw [hg]; exact (below_size (by repeat (first | (with_reducible first | exact HB.out | apply below_alloc | apply pw_below_drewN | apply below_drew1) | exact HB.out))) : w.heap.size ≤ gb137)); have n3_ := Aside0.mk ((by rw [hg]; exact (below_size (by repeat (first | (with_reducible first | exact HB.out | apply below_alloc | apply pw_below_drewN | apply below_drew1) | exact HB.out))) : w.heap.size ≤ gb137)); clear HB; have HB := n0_; have BK137 := n1_; have GW137 := n2_; have GE137 := n3_; clear n0_ n1_ n2_ n3_; clear hb hbox hg) | ((with_reducible refine gate_dst (N := 3) rfl ?_); refine box_event ?hg (N := 3) ?hd (cs := #[.string a1_0, .string a1_1, .bool a1_2]) (t := 31) ?hr ?_; (case hd => rfl); (case hg => rfl); (case hr => first | (go_simp; done) | (go_simp; rfl)); intro gb138 hg w58 hbox hb; have n0_ := Aside0.mk (blk_below (g := gb137) (o := .cells #[.string a0_0, .string a0_1, .bool a0_2] 31 (0, 0)) (by (with_reducible repeat (first | refine blk_drewN ?_ _ | refine blk_drew ?_ | refine blk_alloc ?_ _)); exact BK137.out) hb); have n1_ := Aside0.mk (below_step (by repeat (first | (with_reducible first | exact HB.out | apply below_alloc | apply pw_below_drewN | apply below_drew1 | refine below_set ?_ GE137.out) | exact HB.out)) hb); have n2_ := Aside0.mk (hbox); have n3_ := Aside0.mk ((by rw [hg]; exact (below_size (by repeat (first | (with_reducible first | exact HB.out | apply below_alloc | apply pw_below_drewN | apply below_drew1 | refine below_set ?_ GE137.out) | exact HB.out))) : w.heap.size ≤ gb138)); have n4_ := Aside0.mk ((by rw [hg]; exact (below_size (by repeat (first | (with_reducible first | exact HB.out | apply below_alloc | apply pw_below_drewN | apply below_drew1 | refine below_set ?_ GE137.out) | exact HB.out))) : w.heap.size ≤ gb138)); have n5_ := Aside0.mk ((by rw [hg]; exact Nat.ne_of_lt (blk_lt (g := gb137) (o := .cells #[.string a0_0, .string a0_1, .bool a0_2] 31 (0, 0)) (by (with_reducible repeat (first | refine blk_drewN ?_ _ | refine blk_drew ?_ | refine blk_alloc ?_ _)); exact BK137.out)) : gb137 ≠ gb138)); have n6_ := Aside0.mk ((by rw [hg]; exact Nat.ne_of_gt (blk_lt (g := gb137) (o := .cells #[.string a0_0, .string a0_1, .bool a0_2] 31 (0, 0)) (by (with_reducible repeat (first | refine blk_drewN ?_ _ | refine blk_drew ?_ | refine blk_alloc ?_ _)); exact BK137.out)) : gb138 ≠ gb137)); clear BK137; clear HB; have BK137 := n0_; have HB := n1_; have BK138 := n2_; have GW138 := n3_; have GE138 := n4_; have NB137_138 := n5_; have NB138_137 := n6_; clear n0_ n1_ n2_ n3_ n4_ n5_ n6_; clear hb hbox hg; have hnb59 := NB137_138.out; have hnc59 := NB138_137.out; have hcz60_0 : w58.cell? ⟨gb137, 0, none⟩ = some (.string a0_0) := (blk_cell BK137.out 0).trans rfl; have hcz60_1 : w58.cell? ⟨gb137, 1, none⟩ = some (.string a0_1) := (blk_cell BK137.out 1).trans rfl; have hcz60_2 : w58.cell? ⟨gb137, 2, none⟩ = some (.bool a0_2) := (blk_cell BK137.out 2).trans rfl; have hfz60_0 := blk_frozen BK137.out 0; have hfz60_1 := blk_frozen BK137.out 1; have hfz60_2 := blk_frozen BK137.out 2) | (go_at_call 25; (with_reducible refine (spec_allDigits.calls k a0_1 t139 _ A3.out).mono ?_); rintro e w' ⟨rfl, ⟨nd, rfl⟩⟩; (try first | exact ⟨rfl, _, World.drewN_drewN _ _ _⟩ | exact ⟨rfl, _, Eq.trans (World.drewN_drewN _ _ _) (congrArg (World.drewN _) (Nat.add_assoc _ _ _))⟩); have hcz61_0 : w58.cell? ⟨gb138, 0, none⟩ = some (.string a1_0) := (blk_cell BK138.out 0).trans rfl; have hcz61_1 : w58.cell? ⟨gb138, 1, none⟩ = some (.string a1_1) := (blk_cell BK138.out 1).trans rfl; have hcz61_2 : w58.cell? ⟨gb138, 2, none⟩ = some (.bool a1_2) := (blk_cell BK138.out 2).trans rfl; have hfz61_0 := blk_frozen BK138.out 0; have hfz61_1 := blk_frozen BK138.out 1; have hfz61_2 := blk_frozen BK138.out 2) | (go_at_call 25; (with_reducible refine (spec_allDigits.calls k a1_1 t140 _ A4.out).mono ?_); rintro e w' ⟨rfl, ⟨nd, rfl⟩⟩; (try first | exact ⟨rfl, _, World.drewN_drewN _ _ _⟩ | exact ⟨rfl, _, Eq.trans (World.drewN_drewN _ _ _) (congrArg (World.drewN _) (Nat.add_assoc _ _ _))⟩)) | (go_at_call 26; (with_reducible refine (spec_TokenOrder.calls k a0_0 a0_1 a0_2 t141 true _ A53.out).mono ?_); rintro e w62 ⟨rfl, hb⟩; have n0_ := Aside0.mk (blk_below (g := gb137) (o := .cells #[.string a0_0, .string a0_1, .bool a0_2] 31 (0, 0)) (by (with_reducible repeat (first | refine blk_drewN ?_ _ | refine blk_drew ?_ | refine blk_alloc ?_ _)); exact BK137.out) hb); have n1_ := Aside0.mk (blk_below (g := gb138) (o := .cells #[.string a1_0, .string a1_1, .bool a1_2] 31 (0, 0)) (by (with_reducible repeat (first | refine blk_drewN ?_ _ | refine blk_drew ?_ | refine blk_alloc ?_ _)); exact BK138.out) hb); have n2_ := Aside0.mk (below_step (by repeat (first | (with_reducible first | exact HB.out | apply below_alloc | apply pw_below_drewN | apply below_drew1 | refine below_set ?_ GE137.out | refine below_set ?_ GE138.out) | exact HB.out)) hb); clear BK137; clear BK138; clear HB; have BK137 := n0_; have BK138 := n1_; have HB := n2_; clear n0_ n1_ n2_; (try clear hb); (try clear hb2); (try clear hk); (try clear hi); have hcz63_0 : w62.cell? ⟨gb138, 0, none⟩ = some (.string a1_0) := (blk_cell BK138.out 0).trans rfl; have hcz63_1 : w62.cell? ⟨gb138, 1, none⟩ = some (.string a1_1) := (blk_cell BK138.out 1).trans rfl; have hcz63_2 : w62.cell? ⟨gb138, 2, none⟩ = some (.bool a1_2) := (blk_cell BK138.out 2).trans rfl; have hfz63_0 := blk_frozen BK138.out 0; have hfz63_1 := blk_frozen BK138.out 1; have hfz63_2 := blk_frozen BK138.out 2) | (go_at_call 26; (with_reducible refine (spec_TokenOrder.calls k a1_0 a1_1 a1_2 t143 t144 _ A54.out).mono ?_); rintro e w64 ⟨rfl, hb⟩; have n0_ := Aside0.mk (blk_below (g := gb137) (o := .cells #[.string a0_0, .string a0_1, .bool a0_2] 31 (0, 0)) (by (with_reducible repeat (first | refine blk_drewN ?_ _ | refine blk_drew ?_ | refine blk_alloc ?_ _)); exact BK137.out) hb); have n1_ := Aside0.mk (blk_below (g := gb138) (o := .cells #[.string a1_0, .string a1_1, .bool a1_2] 31 (0, 0)) (by (with_reducible repeat (first | refine blk_drewN ?_ _ | refine blk_drew ?_ | refine blk_alloc ?_ _)); exact BK138.out) hb); have n2_ := Aside0.mk (below_step (by repeat (first | (with_reducible first | exact HB.out | apply below_alloc | apply pw_below_drewN | apply below_drew1 | refine below_set ?_ GE137.out | refine below_set ?_ GE138.out) | exact HB.out)) hb); clear BK137; clear BK138; clear HB; have BK137 := n0_; have BK138 := n1_; have HB := n2_; clear n0_ n1_ n2_; (try clear hb); (try clear hb2); (try clear hk); (try clear hi)) | (go_at_call 27; (with_reducible refine (spec_orderInts.calls t141 t143 t145 _ A55.out).mono ?_); rintro e w' ⟨rfl, ⟨nd, rfl⟩⟩; (try first | exact ⟨rfl, _, World.drewN_drewN _ _ _⟩ | exact ⟨rfl, _, Eq.trans (World.drewN_drewN _ _ _) (congrArg (World.drewN _) (Nat.add_assoc _ _ _))⟩))))
      go_ret2
      exact ⟨by first | rfl | (simp [errW_none, errW_some] <;> rfl) | (simp [*, errW_none, errW_some] <;> rfl) | (simp [bne_nil_]; done), by repeat (first | (with_reducible first | exact HB.out | apply below_alloc | apply pw_below_drewN | apply below_drew1 | refine below_set ?_ GE137.out | refine below_set ?_ GE138.out) | exact HB.out)⟩
    · replace c56 := Bool.eq_false_iff.mpr c56
      subst c56
      have H1 : (some (t145, false)) = some (r1, r2) := by rw [if_neg (show ¬ (false = true) by decide)] at H; exact H
      clear H
      have H := H1
      clear H1
      simp only [Option.some.injEq, Prod.mk.injEq] at H
      obtain ⟨rfl, rfl⟩ := H
      go_enter Tryd.func20, Tryd.ntmps20
      go_wp2_with (first | ((with_reducible refine gate_dst (N := 2) rfl ?_); refine box_event ?hg (N := 2) ?hd (cs := #[.string a0_0, .string a0_1, .bool a0_2]) (t := 31) ?hr ?_; (case hd => rfl); (case hg => rfl); (case hr => first | (go_simp; done) | (go_simp; rfl)); intro gb137 hg w65 hbox hb; have n0_ := Aside0.mk (below_step (by repeat (first | (with_reducible first | exact HB.out | apply below_alloc | apply pw_below_drewN | apply below_drew1) | exact HB.out)) hb); have n1_ := Aside0.mk (hbox); have n2_ := Aside0.mk ((by rw [hg]; exact (below_size (by repeat (first | (with_reducible first | exact HB.out | apply below_alloc | apply pw_below_drewN | apply below_drew1) | exact HB.out))) : w.heap.size ≤ gb137)); have n3_ := Aside0.mk ((by rw [hg]; exact (below_size (by repeat (first | (with_reducible first | exact HB.out | apply below_alloc | apply pw_below_drewN | apply below_drew1) | exact HB.out))) : w.heap.size ≤ gb137)); clear HB; have HB := n0_; have BK137 := n1_; have GW137 := n2_; have GE137 := n3_; clear n0_ n1_ n2_ n3_; clear hb hbox hg) | ((with_reducible refine gate_dst (N := 3) rfl ?_); refine box_event ?hg (N := 3) ?hd (cs := #[.string a1_0, .string a1_1, .bool a1_2]) (t := 31) ?hr ?_; (case hd => rfl); (case hg => rfl); (case hr => first | (go_simp; done) | (go_simp; rfl)); intro gb138 hg w66 hbox hb; have n0_ := Aside0.mk (blk_below (g := gb137) (o := .cells #[.string a0_0, .string a0_1, .bool a0_2] 31 (0, 0)) (by (with_reducible repeat (first | refine blk_drewN ?_ _ | refine blk_drew ?_ | refine blk_alloc ?_ _)); exact BK137.out) hb); have n1_ := Aside0.mk (below_step (by repeat (first | (with_reducible first | exact HB.out | apply below_alloc | apply pw_below_drewN | apply below_drew1 | refine below_set ?_ GE137.out) | exact HB.out)) hb); have n2_ := Aside0.mk (hbox); have n3_ := Aside0.mk ((by rw [hg]; exact (below_size (by repeat (first | (with_reducible first | exact HB.out | apply below_alloc | apply pw_below_drewN | apply below_drew1 | refine below_set ?_ GE137.out) | exact HB.out))) : w.heap.size ≤ gb138)); have n4_ := Aside0.mk ((by rw [hg]; exact (below_size (by repeat (first | (with_reducible first | exact HB.out | apply below_alloc | apply pw_below_drewN | apply below_drew1 | refine below_set ?_ GE137.out) | exact HB.out))) : w.heap.size ≤ gb138)); have n5_ := Aside0.mk ((by rw [hg]; exact Nat.ne_of_lt (blk_lt (g := gb137) (o := .cells #[.string a0_0, .string a0_1, .bool a0_2] 31 (0, 0)) (by (with_reducible repeat (first | refine blk_drewN ?_ _ | refine blk_drew ?_ | refine blk_alloc ?_ _)); exact BK137.out)) : gb137 ≠ gb138)); have n6_ := Aside0.mk ((by rw [hg]; exact Nat.ne_of_gt (blk_lt (g := gb137) (o := .cells #[.string a0_0, .string a0_1, .bool a0_2] 31 (0, 0)) (by (with_reducible repeat (first | refine blk_drewN ?_ _ | refine blk_drew ?_ | refine blk_alloc ?_ _)); exact BK137.out)) : gb138 ≠ gb137)); clear BK137; clear HB; have BK137 := n0_; have HB := n1_; have BK138 := n2_; have GW138 := n3_; have GE138 := n4_; have NB137_138 := n5_; have NB138_137 := n6_; clear n0_ n1_ n2_ n3_ n4_ n5_ n6_; clear hb hbox hg; have hnb67 := NB137_138.out; have hnc67 := NB138_137.out; have hcz68_0 : w66.cell? ⟨gb137, 0, none⟩ = some (.string a0_0) := (blk_cell BK137.out 0).trans rfl; have hcz68_1 : w66.cell? ⟨gb137, 1, none⟩ = some (.string a0_1) := (blk_cell BK137.out 1).trans rfl; have hcz68_2 : w66.cell? ⟨gb137, 2, none⟩ = some (.bool a0_2) := (blk_cell BK137.out 2).trans rfl; have hfz68_0 := blk_frozen BK137.out 0; have hfz68_1 := blk_frozen BK137.out 1; have hfz68_2 := blk_frozen BK137.out 2) | (go_at_call 25; (with_reducible refine (spec_allDigits.calls k a0_1 t139 _ A3.out).mono ?_); rintro e w' ⟨rfl, ⟨nd, rfl⟩⟩; (try first | exact ⟨rfl, _, World.drewN_drewN _ _ _⟩ | exact ⟨rfl, _, Eq.trans (World.drewN_drewN _ _ _) (congrArg (World.drewN _) (Nat.add_assoc _ _ _))⟩); have hcz69_0 : w66.cell? ⟨gb138, 0, none⟩ = some (.string a1_0) := (blk_cell BK138.out 0).trans rfl; have hcz69_1 : w66.cell? ⟨gb138, 1, none⟩ = some (.string a1_1) := (blk_cell BK138.out 1).trans rfl; have hcz69_2 : w66.cell? ⟨gb138, 2, none⟩ = some (.bool a1_2) := (blk_cell BK138.out 2).trans rfl; have hfz69_0 := blk_frozen BK138.out 0; have hfz69_1 := blk_frozen BK138.out 1; have hfz69_2 := blk_frozen BK138.out 2) | (go_at_call 25; (with_reducible refine (spec_allDigits.calls k a1_1 t140 _ A4.out).mono ?_); rintro e w' ⟨rfl, ⟨nd, rfl⟩⟩; (try first | exact ⟨rfl, _, World.drewN_drewN _ _ _⟩ | exact ⟨rfl, _, Eq.trans (World.drewN_drewN _ _ _) (congrArg (World.drewN _) (Nat.add_assoc _ _ _))⟩)) | (go_at_call 26; (with_reducible refine (spec_TokenOrder.calls k a0_0 a0_1 a0_2 t141 false _ A53.out).mono ?_); rintro e w70 ⟨rfl, hb⟩; have n0_ := Aside0.mk (blk_below (g := gb137) (o := .cells #[.string a0_0, .string a0_1, .bool a0_2] 31 (0, 0)) (by (with_reducible repeat (first | refine blk_drewN ?_ _ | refine blk_drew ?_ | refine blk_alloc ?_ _)); exact BK137.out) hb); have n1_ := Aside0.mk (blk_below (g := gb138) (o := .cells #[.string a1_0, .string a1_1, .bool a1_2] 31 (0, 0)) (by (with_reducible repeat (first | refine blk_drewN ?_ _ | refine blk_drew ?_ | refine blk_alloc ?_ _)); exact BK138.out) hb); have n2_ := Aside0.mk (below_step (by repeat (first | (with_reducible first | exact HB.out | apply below_alloc | apply pw_below_drewN | apply below_drew1 | refine below_set ?_ GE137.out | refine below_set ?_ GE138.out) | exact HB.out)) hb); clear BK137; clear BK138; clear HB; have BK137 := n0_; have BK138 := n1_; have HB := n2_; clear n0_ n1_ n2_; (try clear hb); (try clear hb2); (try clear hk); (try clear hi); have hcz71_0 : w70.cell? ⟨gb138, 0, none⟩ = some (.string a1_0) := (blk_cell BK138.out 0).trans rfl; have hcz71_1 : w70.cell? ⟨gb138, 1, none⟩ = some (.string a1_1) := (blk_cell BK138.out 1).trans rfl; have hcz71_2 : w70.cell? ⟨gb138, 2, none⟩ = some (.bool a1_2) := (blk_cell BK138.out 2).trans rfl; have hfz71_0 := blk_frozen BK138.out 0; have hfz71_1 := blk_frozen BK138.out 1; have hfz71_2 := blk_frozen BK138.out 2) | (go_at_call 26; (with_reducible refine (spec_TokenOrder.calls k a1_0 a1_1 a1_2 t143 t144 _ A54.out).mono ?_); rintro e w72 ⟨rfl, hb⟩; have n0_ := Aside0.mk (blk_below (g := gb137) (o := .cells #[.string a0_0, .string a0_1, .bool a0_2] 31 (0, 0)) (by (with_reducible repeat (first | refine blk_drewN ?_ _ | refine blk_drew ?_ | refine blk_alloc ?_ _)); exact BK137.out) hb); have n1_ := Aside0.mk (blk_below (g := gb138) (o := .cells #[.string a1_0, .string a1_1, .bool a1_2] 31 (0, 0)) (by (with_reducible repeat (first | refine blk_drewN ?_ _ | refine blk_drew ?_ | refine blk_alloc ?_ _)); exact BK138.out) hb); have n2_ := Aside0.mk (below_step (by repeat (first | (with_reducible first | exact HB.out | apply below_alloc | apply pw_below_drewN | apply below_drew1 | refine below_set ?_ GE137.out | refine below_set ?_ GE138.out) | exact HB.out)) hb); clear BK137; clear BK138; clear HB; have BK137 := n0_; have BK138 := n1_; have HB := n2_; clear n0_ n1_ n2_; (try clear hb); (try clear hb2); (try clear hk); (try clear hi)) | (go_at_call 27; (with_reducible refine (spec_orderInts.calls t141 t143 t145 _ A55.out).mono ?_); rintro e w' ⟨rfl, ⟨nd, rfl⟩⟩; (try first | exact ⟨rfl, _, World.drewN_drewN _ _ _⟩ | exact ⟨rfl, _, Eq.trans (World.drewN_drewN _ _ _) (congrArg (World.drewN _) (Nat.add_assoc _ _ _))⟩)))
      repeat (go_quiet (first | ((with_reducible refine gate_dst (N := 2) rfl ?_); refine box_event ?hg (N := 2) ?hd (cs := #[.string a0_0, .string a0_1, .bool a0_2]) (t := 31) ?hr ?_; (case hd => rfl); (case hg => rfl); (case hr => first | (go_simp; done) | (go_simp; rfl)); intro gb137 hg w65 hbox hb; have n0_ := Aside0.mk (below_step (by repeat (first | (with_reducible first | exact HB.out | apply below_alloc | apply pw_below_drewN | apply below_drew1) | exact HB.out)) hb); have n1_ := Aside0.mk (hbox); have n2_ := Aside0.mk ((by rw [hg]; exact (below_size (by repeat (first | (with_reducible first | exact HB.out | apply below_alloc | apply pw_below_drewN | apply below_drew1) | exact HB.out))) : w.heap.size ≤ gb137)); have n3_ := Aside0.mk ((by rw [hg]; exact (below_size (by repeat (first | (with_reducible first | exact HB.out | apply below_alloc | apply pw_below_drewN | apply below_drew1) | exact HB.out))) : w.heap.size ≤ gb137)); clear HB; have HB := n0_; have BK137 := n1_; have GW137 := n2_; have GE137 := n3_; clear n0_ n1_ n2_ n3_; clear hb hbox hg) | ((with_reducible refine gate_dst (N := 3) rfl ?_); refine box_event ?hg (N := 3) ?hd (cs := #[.string a1_0, .string a1_1, .bool a1_2]) (t := 31) ?hr ?_; (case hd => rfl); (case hg => rfl); (case hr => first | (go_simp; done) | (go_simp; rfl)); intro gb138 hg w66 hbox hb; have n0_ := Aside0.mk (blk_below (g := gb137) (o := .cells #[.string a0_0, .string a0_1, .bool a0_2] 31 (0, 0)) (by (with_reducible repeat (first | refine blk_drewN ?_ _ | refine blk_drew ?_ | refine blk_alloc ?_ _)); exact BK137.out) hb); have n1_ := Aside0.mk (below_step (by repeat (first | (with_reducible first | exact HB.out | apply below_alloc | apply pw_below_drewN | apply below_drew1 | refine below_set ?_ GE137.out) | exact HB.out)) hb); have n2_ := Aside0.mk (hbox); have n3_ := Aside0.mk ((by rw [hg]; exact (below_size (by repeat (first | (with_reducible first | exact HB.out | apply below_alloc | apply pw_below_drewN | apply below_drew1 | refine below_set ?_ GE137.out) | exact HB.out))) : w.heap.size ≤ gb138)); have n4_ := Aside0.mk ((by rw [hg]; exact (below_size (by repeat (first | (with_reducible first | exact HB.out | apply below_alloc | apply pw_below_drewN | apply below_drew1 | refine below_set ?_ GE137.out) | exact HB.out))) : w.heap.size ≤ gb138)); have n5_ := Aside0.mk ((by rw [hg]; exact Nat.ne_of_lt (blk_lt (g := gb137) (o := .cells #[.string a0_0, .string a0_1, .bool a0_2] 31 (0, 0)) (by (with_reducible repeat (first | refine blk_drewN ?_ _ | refine blk_drew ?_ | refine blk_alloc ?_ _)); exact BK137.out)) : gb137 ≠ gb138)); have n6_ := Aside0.mk ((by rw [hg]; exact Nat.ne_of_gt (blk_lt (g := gb137) (o := .cells #[.string a0_0, .string a0_1, .bool a0_2] 31 (0, 0)) (by (with_reducible repeat (first | refine blk_drewN ?_ _ | refine blk_drew ?_ | refine blk_alloc ?_ _)); exact BK137.out)) : gb138 ≠ gb137)); clear BK137; clear HB; have BK137 := n0_; have HB := n1_; have BK138 := n2_; have GW138 := n3_; have GE138 := n4_; have NB137_138 := n5_; have NB138_137 := n6_; clear n0_ n1_ n2_ n3_ n4_ n5_ n6_; clear hb hbox hg; have hnb67 := NB137_138.out; have hnc67 := NB138_137.out; have hcz68_0 : w66.cell? ⟨gb137, 0, none⟩ = some (.string a0_0) := (blk_cell BK137.out 0).trans rfl; have hcz68_1 : w66.cell? ⟨gb137, 1, none⟩ = some (.string a0_1) := (blk_cell BK137.out 1).trans rfl; have hcz68_2 : w66.cell? ⟨gb137, 2, none⟩ = some (.bool a0_2) := (blk_cell BK137.out 2).trans rfl; have hfz68_0 := blk_frozen BK137.out 0; have hfz68_1 := blk_frozen BK137.out 1; have hfz68_2 := blk_frozen BK137.out 2) | (go_at_call 25; (with_reducible refine (spec_allDigits.calls k a0_1 t139 _ A3.out).mono ?_); rintro e w' ⟨rfl, ⟨nd, rfl⟩⟩; (try first | exact ⟨rfl, _, World.drewN_drewN _ _ _⟩ | exact ⟨rfl, _, Eq.trans (World.drewN_drewN _ _ _) (congrArg (World.drewN _) (Nat.add_assoc _ _ _))⟩); have hcz69_0 : w66.cell? ⟨gb138, 0, none⟩ = some (.string a1_0) := (blk_cell BK138.out 0).trans rfl; have hcz69_1 : w66.cell? ⟨gb138, 1, none⟩ = some (.string a1_1) := (blk_cell BK138.out 1).trans rfl; have hcz69_2 : w66.cell? ⟨gb138, 2, none⟩ = some (.bool a1_2) := (blk_cell BK138.out 2).trans rfl; have hfz69_0 := blk_frozen BK138.out 0; have hfz69_1 := blk_frozen BK138.out 1; have hfz69_2 := blk_frozen BK138.out 2) | (go_at_call 25; (with_reducible refine (spec_allDigits.calls k a1_1 t140 _ A4.out).mono ?_); rintro e w' ⟨rfl, ⟨nd, rfl⟩⟩; (try first | exact ⟨rfl, _, World.drewN_drewN _ _ _⟩ | exact ⟨rfl, _, Eq.trans (World.drewN_drewN _ _ _) (congrArg (World.drewN _) (Nat.add_assoc _ _ _))⟩)) | (go_at_call 26; (with_reducible refine (spec_TokenOrder.calls k a0_0 a0_1 a0_2 t141 false _ A53.out).mono ?_); rintro e w70 ⟨rfl, hb⟩; have n0_ := Aside0.mk (blk_below (g := gb137) (o := .cells #[.string a0_0, .string a0_1, .bool a0_2] 31 (0, 0)) (by (with_reducible repeat (first | refine blk_drewN ?_ _ | refine blk_drew ?_ | refine blk_alloc ?_ _)); exact BK137.out) hb); have n1_ := Aside0.mk (blk_below (g := gb138) (o := .cells #[.string a1_0, .string a1_1, .bool a1_2] 31 (0, 0)) (by (with_reducible repeat (first | refine blk_drewN ?_ _ | refine blk_drew ?_ | refine blk_alloc ?_ _)); exact BK138.out) hb); have n2_ := Aside0.mk (below_step (by repeat (first | (with_reducible first | exact HB.out | apply below_alloc | apply pw_below_drewN | apply below_drew1 | refine below_set ?_ GE137.out | refine below_set ?_ GE138.out) | exact HB.out)) hb); clear BK137; clear BK138; clear HB; have BK137 := n0_; have BK138 := n1_; have HB := n2_; clear n0_ n1_ n2_; (try clear hb); (try clear hb2); (try clear hk); (try clear hi); have hcz71_0 : w70.cell? ⟨gb138, 0, none⟩ = some (.string a1_0) := (blk_cell BK138.out 0).trans rfl; have hcz71_1 : w70.cell? ⟨gb138, 1, none⟩ = some (.string a1_1) := (blk_cell BK138.out 1).trans rfl; have hcz71_2 : w70.cell? ⟨gb138, 2, none⟩ = some (.bool a1_2) := (blk_cell BK138.out 2).trans rfl; have hfz71_0 := blk_frozen BK138.out 0; have hfz71_1 := blk_frozen BK138.out 1; have hfz71_2 := blk_frozen BK138.out 2) | (go_at_call 26; (with_reducible refine (spec_TokenOrder.calls k a1_0 a1_1 a1_2 t143 t144 _ A54.out).mono ?_); rintro e w72 ⟨rfl, hb⟩; have n0_ := Aside0.mk (blk_below (g := gb137) (o := .cells #[.string a0_0, .string a0_1, .bool a0_2] 31 (0, 0)) (by (with_reducible repeat (first | refine blk_drewN ?_ _ | refine blk_drew ?_ | refine blk_alloc ?_ _)); exact BK137.out) hb); have n1_ := Aside0.mk (blk_below (g := gb138) (o := .cells #[.string a1_0, .string a1_1, .bool a1_2] 31 (0, 0)) (by (with_reducible repeat (first | refine blk_drewN ?_ _ | refine blk_drew ?_ | refine blk_alloc ?_ _)); exact BK138.out) hb); have n2_ := Aside0.mk (below_step (by repeat (first | (with_reducible first | exact HB.out | apply below_alloc | apply pw_below_drewN | apply below_drew1 | refine below_set ?_ GE137.out | refine below_set ?_ GE138.out) | exact HB.out)) hb); clear BK137; clear BK138; clear HB; have BK137 := n0_; have BK138 := n1_; have HB := n2_; clear n0_ n1_ n2_; (try clear hb); (try clear hb2); (try clear hk); (try clear hi)) | (go_at_call 27; (with_reducible refine (spec_orderInts.calls t141 t143 t145 _ A55.out).mono ?_); rintro e w' ⟨rfl, ⟨nd, rfl⟩⟩; (try first | exact ⟨rfl, _, World.drewN_drewN _ _ _⟩ | exact ⟨rfl, _, Eq.trans (World.drewN_drewN _ _ _) (congrArg (World.drewN _) (Nat.add_assoc _ _ _))⟩))); try go_wp2_with (first | ((with_reducible refine gate_dst (N := 2) rfl ?_); refine box_event ?hg (N := 2) ?hd (cs := #[.string a0_0, .string a0_1, .bool a0_2]) (t := 31) ?hr ?_; (case hd => rfl); (case hg => rfl); (case hr => first | (go_simp; done) | (go_simp; rfl)); intro gb137 hg w65 hbox hb; have n0_ := Aside0.mk (below_step (by repeat (first | (with_reducible first | exact HB.out | apply below_alloc | apply pw_below_drewN | apply below_drew1) | exact HB.out)) hb); have n1_ := Aside0.mk (hbox); have n2_ := Aside0.mk ((by rw [hg]; exact (below_size (by repeat (first | (with_reducible first | exact HB.out | apply below_alloc | apply pw_below_drewN | apply below_drew1) | exact HB.out))) : w.heap.size ≤ gb137)); have n3_ := Aside0.mk ((by rw [hg]; exact (below_size (by repeat (first | (with_reducible first | exact HB.out | apply below_alloc | apply pw_below_drewN | apply below_drew1) | exact HB.out))) : w.heap.size ≤ gb137)); clear HB; have HB := n0_; have BK137 := n1_; have GW137 := n2_; have GE137 := n3_; clear n0_ n1_ n2_ n3_; clear hb hbox hg) | ((with_reducible refine gate_dst (N := 3) rfl ?_); refine box_event ?hg (N := 3) ?hd (cs := #[.string a1_0, .string a1_1, .bool a1_2]) (t := 31) ?hr ?_; (case hd => rfl); (case hg => rfl); (case hr => first | (go_simp; done) | (go_simp; rfl)); intro gb138 hg w66 hbox hb; have n0_ := Aside0.mk (blk_below (g := gb137) (o := .cells #[.string a0_0, .string a0_1, .bool a0_2] 31 (0, 0)) (by (with_reducible repeat (first | refine blk_drewN ?_ _ | refine blk_drew ?_ | refine blk_alloc ?_ _)); exact BK137.out) hb); have n1_ := Aside0.mk (below_step (by repeat (first | (with_reducible first | exact HB.out | apply below_alloc | apply pw_below_drewN | apply below_drew1 | refine below_set ?_ GE137.out) | exact HB.out)) hb); have n2_ := Aside0.mk (hbox); have n3_ := Aside0.mk ((by rw [hg]; exact (below_size (by repeat (first | (with_reducible first | exact HB.out | apply below_alloc | apply pw_below_drewN | apply below_drew1 | refine below_set ?_ GE137.out) | exact HB.out))) : w.heap.size ≤ gb138)); have n4_ := Aside0.mk ((by rw [hg]; exact (below_size (by repeat (first | (with_reducible first | exact HB.out | apply below_alloc | apply pw_below_drewN | apply below_drew1 | refine below_set ?_ GE137.out) | exact HB.out))) : w.heap.size ≤ gb138)); have n5_ := Aside0.mk ((by rw [hg]; exact Nat.ne_of_lt (blk_lt (g := gb137) (o := .cells #[.string a0_0, .string a0_1, .bool a0_2] 31 (0, 0)) (by (with_reducible repeat (first | refine blk_drewN ?_ _ | refine blk_drew ?_ | refine blk_alloc ?_ _)); exact BK137.out)) : gb137 ≠ gb138)); have n6_ := Aside0.mk ((by rw [hg]; exact Nat.ne_of_gt (blk_lt (g := gb137) (o := .cells #[.string a0_0, .string a0_1, .bool a0_2] 31 (0, 0)) (by (with_reducible repeat (first | refine blk_drewN ?_ _ | refine blk_drew ?_ | refine blk_alloc ?_ _)); exact BK137.out)) : gb138 ≠ gb137)); clear BK137; clear HB; have BK137 := n0_; have HB := n1_; have BK138 := n2_; have GW138 := n3_; have GE138 := n4_; have NB137_138 := n5_; have NB138_137 := n6_; clear n0_ n1_ n2_ n3_ n4_ n5_ n6_; clear hb hbox hg; have hnb67 := NB137_138.out; have hnc67 := NB138_137.out; have hcz68_0 : w66.cell? ⟨gb137, 0, none⟩ = some (.string a0_0) := (blk_cell BK137.out 0).trans rfl; have hcz68_1 : w66.cell? ⟨gb137, 1, none⟩ = some (.string a0_1) := (blk_cell BK137.out 1).trans rfl; have hcz68_2 : w66.cell? ⟨gb137, 2, none⟩ = some (.bool a0_2) := (blk_cell BK137.out 2).trans rfl; have hfz68_0 := blk_frozen BK137.out 0; have hfz68_1 := blk_frozen BK137.out 1; have hfz68_2 := blk_frozen BK137.out 2) | (go_at_call 25; (with_reducible refine (spec_allDigits.calls k a0_1 t139 _ A3.out).mono ?_); rintro e w' ⟨rfl, ⟨nd, rfl⟩⟩; (try first | exact ⟨rfl, _, World.drewN_drewN _ _ _⟩ | exact ⟨rfl, _, Eq.trans (World.drewN_drewN _ _ _) (congrArg (World.drewN _) (Nat.add_assoc _ _ _))⟩); have hcz69_0 : w66.cell? ⟨gb138, 0, none⟩ = some (.string a1_0) := (blk_cell BK138.out 0).trans rfl; have hcz69_1 : w66.cell? ⟨gb138, 1, none⟩ = some (.string a1_1) := (blk_cell BK138.out 1).trans rfl; have hcz69_2 : w66.cell? ⟨gb138, 2, none⟩ = some (.bool a1_2) := (blk_cell BK138.out 2).trans rfl; have hfz69_0 := blk_frozen BK138.out 0; have hfz69_1 := blk_frozen BK138.out 1; have hfz69_2 := blk_frozen BK138.out 2) | (go_at_call 25; (with_reducible refine (spec_allDigits.calls k a1_1 t140 _ A4.out).mono ?_); rintro e w' ⟨rfl, ⟨nd, rfl⟩⟩; (try first | exact ⟨rfl, _, World.drewN_drewN _ _ _⟩ | exact ⟨rfl, _, Eq.trans (World.drewN_drewN _ _ _) (congrArg (World.drewN _) (Nat.add_assoc _ _ _))⟩)) | (go_at_call 26; (with_reducible refine (spec_TokenOrder.calls k a0_0 a0_1 a0_2 t141 false _ A53.out).mono ?_); rintro e w70 ⟨rfl, hb⟩; have n0_ := Aside0.mk (blk_below (g := gb137) (o := .cells #[.string a0_0, .string a0_1, .bool a0_2] 31 (0, 0)) (by (with_reducible repeat (first | refine blk_drewN ?_ _ | refine blk_drew ?_ | refine blk_alloc ?_ _)); exact BK137.out) hb); have n1_ := Aside0.mk (blk_below (g := gb138) (o := .cells #[.string a1_0, .string a1_1, .bool a1_2] 31 (0, 0)) (by (with_reducible repeat (first | refine blk_drewN ?_ _ | refine blk_drew ?_ | refine blk_alloc ?_ _)); exact BK138.out) hb); have n2_ := Aside0.mk (below_step (by repeat (first | (with_reducible first | exact HB.out | apply below_alloc | apply pw_below_drewN | apply below_drew1 | refine below_set ?_ GE137.out | refine below_set ?_ GE138.out) | exact HB.out)) hb); clear BK137; clear BK138; clear HB; have BK137 := n0_; have BK138 := n1_; have HB := n2_; clear n0_ n1_ n2_; (try clear hb); (try clear hb2); (try clear hk); (try clear hi); have hcz71_0 : w70.cell? ⟨gb138, 0, none⟩ = some (.string a1_0) := (blk_cell BK138.out 0).trans rfl; have hcz71_1 : w70.cell? ⟨gb138, 1, none⟩ = some (.string a1_1) := (blk_cell BK138.out 1).trans rfl; have hcz71_2 : w70.cell? ⟨gb138, 2, none⟩ = some (.bool a1_2) := (blk_cell BK138.out 2).trans rfl; have hfz71_0 := blk_frozen BK138.out 0; have hfz71_1 := blk_frozen BK138.out 1; have hfz71_2 := blk_frozen BK138.out 2) | (go_at_call 26; (with_reducible refine (spec_TokenOrder.calls k a1_0 a1_1 a1_2 t143 t144 _ A54.out).mono ?_); rintro e w72 ⟨rfl, hb⟩; have n0_ := Aside0.mk (blk_below (g := gb137) (o := .cells #[.string a0_0, .string a0_1, .bool a0_2] 31 (0, 0)) (by (with_reducible repeat (first | refine blk_drewN ?_ _ | refine blk_drew ?_ | refine blk_alloc ?_ _)); exact BK137.out) hb); have n1_ := Aside0.mk (blk_below (g := gb138) (o := .cells #[.string a1_0, .string a1_1, .bool a1_2] 31 (0, 0)) (by (with_reducible repeat (first | refine blk_drewN ?_ _ | refine blk_drew ?_ | refine blk_alloc ?_ _)); exact BK138.out) hb); have n2_ := Aside0.mk (below_step (by repeat (first | (with_reducible first | exact HB.out | apply below_alloc | apply pw_below_drewN | apply below_drew1 | refine below_set ?_ GE137.out | refine below_set ?_ GE138.out) | exact HB.out)) hb); clear BK137; clear BK138; clear HB; have BK137 := n0_; have BK138 := n1_; have HB := n2_; clear n0_ n1_ n2_; (try clear hb); (try clear hb2); (try clear hk); (try clear hi)) | (go_at_call 27; (with_reducible refine (spec_orderInts.calls t141 t143 t145 _ A55.out).mono ?_); rintro e w' ⟨rfl, ⟨nd, rfl⟩⟩; (try first | exact ⟨rfl, _, World.drewN_drewN _ _ _⟩ | exact ⟨rfl, _, Eq.trans (World.drewN_drewN _ _ _) (congrArg (World.drewN _) (Nat.add_assoc _ _ _))⟩))))
      go_ret2
      exact ⟨by first | rfl | (simp [errW_none, errW_some] <;> rfl) | (simp [*, errW_none, errW_some] <;> rfl) | (simp [bne_nil_]; done), by repeat (first | (with_reducible first | exact HB.out | apply below_alloc | apply pw_below_drewN | apply below_drew1 | refine below_set ?_ GE137.out | refine below_set ?_ GE138.out) | exact HB.out)⟩

end Go.Proofs.YtkecmlpihnjjgaaDoor.QL
