-- Written by a working copy of the kit's print program, turned at a few places by wip/tool/mkprint.py. Lean checks it.
import Derived.Test.YtdliagehkiihpaaGreatDoorQWx0
import Derived.Test.YtdliagehkiihpaaGreatDoorQWx4
namespace Go.Proofs.YtdliagehkiihpaaGreatDoor.QW
open Go.RowKit Go.Proofs.YtdliagehkiihpaaGreatDoorW.PrintWords Go.Proofs.YtdliagehkiihpaaGreatDoorW.PrintLast Go.Proofs.YtdliagehkiihpaaGreatDoorW.PrintMore
attribute [local go_sem] max2_int min2_int max_two min_two max_three min_three max_four min_four   -- for this text's walks alone
set_option linter.unusedVariables false
set_option linter.unusedSimpArgs false

/-! ### spec_SemverCompare: function 20 -/
def spec_SemverCompare.f (k : Nat) (a0_0 : Bool) (l0_1 : List (S64)) (a0_2 : ByteArray) (a0_3 : ByteArray) (a1_0 : Bool) (l1_1 : List (S64)) (a1_2 : ByteArray) (a1_3 : ByteArray) : Option (Int × Bool) := (spec_likeOrder.f k a0_0 l0_1 a0_2 a0_3 a1_0 l1_1 a1_2 a1_3).bind fun t211 => (some (t211, true))
theorem spec_SemverCompare.mono : ∀ a0 a1 a2 a3 a4 a5 a6 a7 k, LeO (spec_SemverCompare.f k a0 a1 a2 a3 a4 a5 a6 a7) (spec_SemverCompare.f (k + 1) a0 a1 a2 a3 a4 a5 a6 a7) := by
  intro a0 a1 a2 a3 a4 a5 a6 a7 k
  unfold spec_SemverCompare.f
  repeat' first
      | (with_reducible exact spec_likeOrder.mono _ _ _ _ _ _ _ _ _)
      | (with_reducible exact LeO.refl _)
      | (with_reducible exact LeO.none _)
      | (with_reducible refine LeO.ite ?_ ?_)
      | (with_reducible refine LeO.bind ?_ (fun _ => ?_))
      | exact spec_likeOrder.mono _ _ _ _ _ _ _ _ _
      | exact LeO.none _
      | refine LeO.ite ?_ ?_
      | refine LeO.bind ?_ (fun _ => ?_)
set_option maxHeartbeats 8000000 in
set_option maxRecDepth 100000 in
theorem spec_SemverCompare.calls (k : Nat) (a0_0 : Bool) (A0_1 : Option Addr) (c0_1 : Nat) (l0_1 : List (S64)) (a0_2 : ByteArray) (a0_3 : ByteArray) (a1_0 : Bool) (A1_1 : Option Addr) (c1_1 : Nat) (l1_1 : List (S64)) (a1_2 : ByteArray) (a1_3 : ByteArray) (r1 : Int) (r2 : Bool) (w : World) (hr0_1 : Kd.C k64 w A0_1 l0_1.length l0_1) (hc0_1 : l0_1.length ≤ c0_1) (hr1_1 : Kd.C k64 w A1_1 l1_1.length l1_1) (hc1_1 : l1_1.length ≤ c1_1) (h : spec_SemverCompare.f k a0_0 l0_1 a0_2 a0_3 a1_0 l1_1 a1_2 a1_3 = some (r1, r2)) :
    Calls Tryz.prog 20 #[.agg #[.bool a0_0, .slice A0_1 l0_1.length c0_1, .string a0_2, .string a0_3], .agg #[.bool a1_0, .slice A1_1 l1_1.length c1_1, .string a1_2, .string a1_3]] w fun e w' => e = .returned (.tuple #[.int .i64 r1, .bool r2]) ∧ Below w.heap.size w w' := by
  have hu37 := Tryz.underlying37
  have HR0_1 := Aside0.mk hr0_1
  have HC0_1 := Aside0.mk hc0_1
  clear hr0_1 hc0_1
  have HR1_1 := Aside0.mk hr1_1
  have HC1_1 := Aside0.mk hc1_1
  clear hr1_1 hc1_1
  have HB := Aside0.mk (Below.refl w.heap.size w)
  have H : ((spec_likeOrder.f k a0_0 l0_1 a0_2 a0_3 a1_0 l1_1 a1_2 a1_3).bind fun t211 => (some (t211, true))) = some (r1, r2) := h
  clear h
  replace H := Option.bind_eq_some_iff.mp H
  obtain ⟨t211, A30, H⟩ := H
  replace H : (some (t211, true)) = some (r1, r2) := H
  have A3 := Aside0.mk A30
  clear A30
  simp only [Option.some.injEq, Prod.mk.injEq] at H
  obtain ⟨rfl, rfl⟩ := H
  go_enter Tryz.func20, Tryz.ntmps20
  go_wp2_with (first | ((with_reducible refine gate_dst (N := 2) rfl ?_); refine box_event ?hg (N := 2) ?hd (cs := #[.bool a0_0, .slice A0_1 l0_1.length c0_1, .string a0_2, .string a0_3]) (t := 37) ?hr ?_; (case hd => rfl); (case hg => rfl); (case hr => first | (go_simp; done) | (go_simp; rfl)); intro gb209 hg w4 hbox hb; have n0_ := Aside0.mk (below_step (by repeat (first | (with_reducible first | exact HB.out | apply below_alloc | apply pw_below_drewN | apply below_drew1) | exact HB.out)) hb); have n1_ := Aside0.mk (hbox); have n2_ := Aside0.mk ((by rw [hg]; exact (below_size (by repeat (first | (with_reducible first | exact HB.out | apply below_alloc | apply pw_below_drewN | apply below_drew1) | exact HB.out))) : w.heap.size ≤ gb209)); have n3_ := Aside0.mk ((by rw [hg]; exact (below_size (by repeat (first | (with_reducible first | exact HB.out | apply below_alloc | apply pw_below_drewN | apply below_drew1) | exact HB.out))) : w.heap.size ≤ gb209)); clear HB; have HB := n0_; have BK209 := n1_; have GW209 := n2_; have GE209 := n3_; clear n0_ n1_ n2_ n3_; clear hb hbox hg) | ((with_reducible refine gate_dst (N := 3) rfl ?_); refine box_event ?hg (N := 3) ?hd (cs := #[.bool a1_0, .slice A1_1 l1_1.length c1_1, .string a1_2, .string a1_3]) (t := 37) ?hr ?_; (case hd => rfl); (case hg => rfl); (case hr => first | (go_simp; done) | (go_simp; rfl)); intro gb210 hg w5 hbox hb; have n0_ := Aside0.mk (blk_below (g := gb209) (o := .cells #[.bool a0_0, .slice A0_1 l0_1.length c0_1, .string a0_2, .string a0_3] 37 (0, 0)) (by (with_reducible repeat (first | refine blk_drewN ?_ _ | refine blk_drew ?_ | refine blk_alloc ?_ _)); exact BK209.out) hb); have n1_ := Aside0.mk (below_step (by repeat (first | (with_reducible first | exact HB.out | apply below_alloc | apply pw_below_drewN | apply below_drew1 | refine below_set ?_ GE209.out) | exact HB.out)) hb); have n2_ := Aside0.mk (hbox); have n3_ := Aside0.mk ((by rw [hg]; exact (below_size (by repeat (first | (with_reducible first | exact HB.out | apply below_alloc | apply pw_below_drewN | apply below_drew1 | refine below_set ?_ GE209.out) | exact HB.out))) : w.heap.size ≤ gb210)); have n4_ := Aside0.mk ((by rw [hg]; exact (below_size (by repeat (first | (with_reducible first | exact HB.out | apply below_alloc | apply pw_below_drewN | apply below_drew1 | refine below_set ?_ GE209.out) | exact HB.out))) : w.heap.size ≤ gb210)); have n5_ := Aside0.mk ((by rw [hg]; exact Nat.ne_of_lt (blk_lt (g := gb209) (o := .cells #[.bool a0_0, .slice A0_1 l0_1.length c0_1, .string a0_2, .string a0_3] 37 (0, 0)) (by (with_reducible repeat (first | refine blk_drewN ?_ _ | refine blk_drew ?_ | refine blk_alloc ?_ _)); exact BK209.out)) : gb209 ≠ gb210)); have n6_ := Aside0.mk ((by rw [hg]; exact Nat.ne_of_gt (blk_lt (g := gb209) (o := .cells #[.bool a0_0, .slice A0_1 l0_1.length c0_1, .string a0_2, .string a0_3] 37 (0, 0)) (by (with_reducible repeat (first | refine blk_drewN ?_ _ | refine blk_drew ?_ | refine blk_alloc ?_ _)); exact BK209.out)) : gb210 ≠ gb209)); clear BK209; clear HB; have BK209 := n0_; have HB := n1_; have BK210 := n2_; have GW210 := n3_; have GE210 := n4_; have NB209_210 := n5_; have NB210_209 := n6_; clear n0_ n1_ n2_ n3_ n4_ n5_ n6_; clear hb hbox hg; have hnb6 := NB209_210.out; have hnc6 := NB210_209.out; have hcz7_0 : w5.cell? ⟨gb209, 0, none⟩ = some (.bool a0_0) := (blk_cell BK209.out 0).trans rfl; have hcz7_1 : w5.cell? ⟨gb209, 1, none⟩ = some (.slice A0_1 l0_1.length c0_1) := (blk_cell BK209.out 1).trans rfl; have hcz7_2 : w5.cell? ⟨gb209, 2, none⟩ = some (.string a0_2) := (blk_cell BK209.out 2).trans rfl; have hcz7_3 : w5.cell? ⟨gb209, 3, none⟩ = some (.string a0_3) := (blk_cell BK209.out 3).trans rfl; have hfz7_0 := blk_frozen BK209.out 0; have hfz7_1 := blk_frozen BK209.out 1; have hfz7_2 := blk_frozen BK209.out 2; have hfz7_3 := blk_frozen BK209.out 3; have hcz8_0 : w5.cell? ⟨gb210, 0, none⟩ = some (.bool a1_0) := (blk_cell BK210.out 0).trans rfl; have hcz8_1 : w5.cell? ⟨gb210, 1, none⟩ = some (.slice A1_1 l1_1.length c1_1) := (blk_cell BK210.out 1).trans rfl; have hcz8_2 : w5.cell? ⟨gb210, 2, none⟩ = some (.string a1_2) := (blk_cell BK210.out 2).trans rfl; have hcz8_3 : w5.cell? ⟨gb210, 3, none⟩ = some (.string a1_3) := (blk_cell BK210.out 3).trans rfl; have hfz8_0 := blk_frozen BK210.out 0; have hfz8_1 := blk_frozen BK210.out 1; have hfz8_2 := blk_frozen BK210.out 2; have hfz8_3 := blk_frozen BK210.out 3) | ((with_reducible refine gate_callee (f := 42) rfl ?_); refine goesL_ (some 8) rfl rfl Tryz.func42 (by kernel_rfl) rfl #[.agg #[.bool a0_0, .slice A0_1 l0_1.length c0_1, .string a0_2, .string a0_3], .agg #[.bool a1_0, .slice A1_1 l1_1.length c1_1, .string a1_2, .string a1_3]] rfl (by (try simp only [List.map_toArray, List.map_cons, List.map_nil]); first | done | rfl | (simp only [List.length_drop, List.length_take]; rfl)) ?_; (with_reducible refine (spec_likeOrder.calls k a0_0 _ _ l0_1 a0_2 a0_3 a1_0 _ _ l1_1 a1_2 a1_3 t211 _ ?side1 ?side2 ?side3 ?side4 A3.out).mono ?_); (case side1 => repeat (first | exact (Kd.C_below HR0_1.out HB.out) | (with_reducible refine Kd.C_alloc ?_ _) | (with_reducible refine Kd.C_drewN ?_ _) | (with_reducible refine Kd.C_drew ?_))); (case side2 => exact HC0_1.out); (case side3 => repeat (first | exact (Kd.C_below HR1_1.out HB.out) | (with_reducible refine Kd.C_alloc ?_ _) | (with_reducible refine Kd.C_drewN ?_ _) | (with_reducible refine Kd.C_drew ?_))); (case side4 => exact HC1_1.out); rintro e w9 ⟨rfl, hb⟩; refine ⟨_, rfl, ?_⟩; have n0_ := Aside0.mk (blk_below (g := gb209) (o := .cells #[.bool a0_0, .slice A0_1 l0_1.length c0_1, .string a0_2, .string a0_3] 37 (0, 0)) (by (with_reducible repeat (first | refine blk_drewN ?_ _ | refine blk_drew ?_ | refine blk_alloc ?_ _)); exact BK209.out) hb); have n1_ := Aside0.mk (blk_below (g := gb210) (o := .cells #[.bool a1_0, .slice A1_1 l1_1.length c1_1, .string a1_2, .string a1_3] 37 (0, 0)) (by (with_reducible repeat (first | refine blk_drewN ?_ _ | refine blk_drew ?_ | refine blk_alloc ?_ _)); exact BK210.out) hb); have n2_ := Aside0.mk (below_step (by repeat (first | (with_reducible first | exact HB.out | apply below_alloc | apply pw_below_drewN | apply below_drew1 | refine below_set ?_ GE209.out | refine below_set ?_ GE210.out) | exact HB.out)) hb); clear BK209; clear BK210; clear HB; have BK209 := n0_; have BK210 := n1_; have HB := n2_; clear n0_ n1_ n2_; (try clear hb); (try clear hb2); (try clear hk); (try clear hi)))
  go_ret2
  exact ⟨by first | rfl | (simp [errW_none, errW_some] <;> rfl) | (simp [*, errW_none, errW_some] <;> rfl) | (simp [bne_nil_]; done), by repeat (first | (with_reducible first | exact HB.out | apply below_alloc | apply pw_below_drewN | apply below_drew1 | refine below_set ?_ GE209.out | refine below_set ?_ GE210.out) | exact HB.out)⟩

end Go.Proofs.YtdliagehkiihpaaGreatDoor.QW
